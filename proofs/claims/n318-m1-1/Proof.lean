import JvmDerived
import JvmDerived.Pilot.@@N@@Statement
import JvmDerived.Pilot.@@N@@Code
set_option linter.unusedVariables false
set_option linter.unusedSimpArgs false
/- laws to paste: Road.backV, Road.codOf, Road.chN (cut by pick.py; bodies as the Statement names them) -/
namespace Jvm.Pilot.@@N@@
namespace StrChars
open Jvm Sem ClassFile Op Lib Jvm.Stand Jvm.Free.XT Jvm.Free.ALB Jvm.Free.JM Jvm.Free
open Jvm.Lib.Cold (StaticIs)
/-- a char array whose places are chars -/
def Ch (a : Addr) (A : Cell) (U : State) : Prop := Arr .char a A U ∧ Typed .char A
theorem Ch.mv {a : Addr} {A : Cell} {U U' : State} (h : Ch a A U) (hal : U.vm.Alike U'.vm) (hh : U'.heap = U.heap) : Ch a A U' := ⟨h.1.mv hal hh, h.2⟩
theorem Ch.keep {a : Addr} {A : Cell} {U U' : State} (h : Ch a A U) (hal : U.vm.Alike U'.vm) (hk : U'.heap[a]? = some A) : Ch a A U' := ⟨h.1.keep hal hk, h.2⟩
/-- what place i of a char[]'s cell holds -/
def cv (A : Cell) (i : Nat) : Int32 := match A.slots[i]? with | some (.int x) => x | _ => 0
theorem Ch.get {a : Addr} {A : Cell} {U : State} (h : Ch a A U) {i : Nat} (hi : i < A.slots.size) : A.slots[i]? = some (.int (cv A i)) := by
  have e := Array.getElem?_eq_getElem hi
  have f := h.2 i _ e
  unfold cv; rw [e]
  generalize A.slots[i] = v at f
  cases v <;> simp [fits] at f ⊢
/-- the byte that i2b leaves of a char -/
def lo8 (x : Int32) : Int32 := x.toInt8.toInt32
theorem fits_lo8 (y : Int32) : fits .byte (.int (lo8 y)) = true := by
  have h1 := y.toInt8.le_toInt
  have h2 := y.toInt8.toInt_lt
  simp only [lo8, fits, Bool.and_eq_true, decide_eq_true_eq, Int32.le_iff_toInt_le, Int8.toInt_toInt32, show (-128 : Int32).toInt = -128 from by decide, show (127 : Int32).toInt = 127 from by decide]
  omega
/-- A' is A but that each place j of lo .. hi - 1 holds f j -/
def Laid (A A' : Cell) (lo hi : Nat) (f : Nat → Value) : Prop := A'.cls = A.cls ∧ A'.vm = A.vm ∧ A'.slots.size = A.slots.size ∧ ∀ i, A'.slots[i]? = if lo ≤ i ∧ i < hi then some (f i) else A.slots[i]?
theorem Laid.zero (A : Cell) (lo : Nat) (f : Nat → Value) : Laid A A lo (lo + 0) f := ⟨rfl, rfl, rfl, fun i => by rw [if_neg (by omega)]⟩
theorem Laid.step {A Ak : Cell} {lo k : Nat} {f : Nat → Value} {v : Value} (h : Laid A Ak lo k f) (hlo : lo ≤ k) (hk : k < Ak.slots.size) (hv : v = f k) : Laid A (Ak.setSlot k v) lo (k + 1) f := by
  refine ⟨h.1, h.2.1, by simpa [Cell.setSlot] using h.2.2.1, fun i => ?_⟩
  by_cases e : k = i
  · subst e; rw [Cell.slots_setSlot_self v hk, if_pos (by omega), hv]
  · rw [Cell.slots_setSlot_ne v e, h.2.2.2 i]
    by_cases q : lo ≤ i ∧ i < k
    · rw [if_pos q, if_pos (by omega)]
    · rw [if_neg q, if_neg (by omega)]
def U16 : String := "java/lang/StringUTF16"
namespace Cmp5
def yN : MethodName := ⟨"java/lang/StringUTF16", "compress", "([CI[BII)I"⟩
abbrev yB : ByteArray := jdk_52_method_21_code
theorem d0 : decode yB 0 = .ok (.iconst 0, 1) := by decide +kernel
theorem d1 : decode yB 1 = .ok (.istore 5, 2) := by decide +kernel
theorem d3 : decode yB 3 = .ok (.iload 5, 2) := by decide +kernel
theorem d5 : decode yB 5 = .ok (.iload 4, 2) := by decide +kernel
theorem d7 : decode yB 7 = .ok (.if_icmp (.ge) 37, 3) := by decide +kernel
theorem d10 : decode yB 10 = .ok (.aload_n 0, 1) := by decide +kernel
theorem d11 : decode yB 11 = .ok (.iload_n 1, 1) := by decide +kernel
theorem d12 : decode yB 12 = .ok (.caload, 1) := by decide +kernel
theorem d13 : decode yB 13 = .ok (.istore 6, 2) := by decide +kernel
theorem d15 : decode yB 15 = .ok (.iload 6, 2) := by decide +kernel
theorem d17 : decode yB 17 = .ok (.sipush 255, 3) := by decide +kernel
theorem d20 : decode yB 20 = .ok (.if_icmp (.le) 6, 3) := by decide +kernel
theorem d26 : decode yB 26 = .ok (.aload_n 2, 1) := by decide +kernel
theorem d27 : decode yB 27 = .ok (.iload_n 3, 1) := by decide +kernel
theorem d28 : decode yB 28 = .ok (.iload 6, 2) := by decide +kernel
theorem d30 : decode yB 30 = .ok (.i2b, 1) := by decide +kernel
theorem d31 : decode yB 31 = .ok (.bastore, 1) := by decide +kernel
theorem d32 : decode yB 32 = .ok (.iinc 1 1, 3) := by decide +kernel
theorem d35 : decode yB 35 = .ok (.iinc 3 1, 3) := by decide +kernel
theorem d38 : decode yB 38 = .ok (.iinc 5 1, 3) := by decide +kernel
theorem d41 : decode yB 41 = .ok (.goto (-38), 3) := by decide +kernel
theorem d44 : decode yB 44 = .ok (.iload 4, 2) := by decide +kernel
theorem d46 : decode yB 46 = .ok (.ireturn, 1) := by decide +kernel
def site : List Cond := []
def tab : Cond := tabOf yN yB 7 (some .int) site
def P (b : Addr) (A : Cell) (d : Addr) (B : Cell) (o q len : Nat) (args : Array Value) (s : State) : Prop := args = #[.ref b, .int (Int32.ofNat o), .ref d, .int (Int32.ofNat q), .int (Int32.ofNat len)] ∧ Ch b A s ∧ Arr .byte d B s ∧ b ≠ d ∧ o + len ≤ A.slots.size ∧ q + len ≤ B.slots.size ∧ ∀ i, i < len → ¬ 255 < cv A (o + i)
def E (b : Addr) (A : Cell) (d : Addr) (B : Cell) (o q len : Nat) (r : Option Value) (s u : State) : Prop := r = some (.int (Int32.ofNat len)) ∧ ∃ B', Put d B' s u ∧ Laid B B' q (q + len) (fun j => Value.int (lo8 (cv A (o + (j - q)))))
/-- no char of the range above 255: len; the places written hold each char's low byte -/
theorem law (l : Launch) (b : Addr) (A : Cell) (d : Addr) (B : Cell) (o q len : Nat) : Law l yN 5 5 0 0 yB 7 (some .int) site (P b A d B o q len) (E b A d B o q len) (copyLocs d q len) 0 0 := by
  refine Law.of_walk (plainFor_of_name (by decide +kernel)) (by decide +kernel) (by decide +kernel) (by decide) (fun _ _ h => by rw [h.1]; rfl) (fun _ U U' hal hh h => ⟨h.1, h.2.1.mv hal hh, h.2.2.1.mv hal hh, h.2.2.2⟩) (fun r U U' V V' h1 hal h2 h => ⟨h.1, h.2.elim fun B' q => ⟨B', q.1.mv h1 h2, q.2⟩⟩) ?_
  intro p e s m args below meth c s₁ X0 hexec hbytes hml hret hlk hnm hown hh0 W hP
  obtain ⟨rfl, hA, hB, hne, l1, l2, hp⟩ := hP
  have c1 : Steps p.tables e below (s₁.setTop (entryFrame m #[.ref b, .int (Int32.ofNat o), .ref d, .int (Int32.ofNat q), .int (Int32.ofNat len)] 7)) (s₁.setTop (mkF m 0 #[.val (.ref b), .val (.int (Int32.ofNat o)), .val (.ref d), .val (.int (Int32.ofNat q)), .val (.int (Int32.ofNat len)), .unset, .unset] [])) := entry rfl
  have hA0 := hA.1.mv X0.warmed.alike hh0
  have hB0 := hB.mv X0.warmed.alike hh0
  have a31 := hA.1.2.2.2
  have c2 : Steps p.tables e below (s₁.setTop (entryFrame m #[.ref b, .int (Int32.ofNat o), .ref d, .int (Int32.ofNat q), .int (Int32.ofNat len)] 7)) (s₁.setTop (mkF m 3 #[.val (.ref b), .val (.int (Int32.ofNat o)), .val (.ref d), .val (.int (Int32.ofNat q)), .val (.int (Int32.ofNat len)), .val (.int 0), .unset] [])) := c1.trans (by
    refine iconstV X0.here hexec rfl 0 (hb hbytes d0) (by decide) ?_
    refine XS.istore X0.here hexec rfl (hb hbytes d1) rfl rfl ?_
    exact Steps.refl _)
  have loop : ∀ (r i : Nat), i + r = len → ∀ (z : Slot), (z = .unset ∨ ∃ w, z = .val w ∧ w.category = 1) → ∀ (Tl : State) (Bk : Cell), Stand p l e { frames := 0, locals := 0, cells := 0, slots := 0 } s m #[.ref b, .int (Int32.ofNat o), .ref d, .int (Int32.ofNat q), .int (Int32.ofNat len)] below meth c Tl ([] ++ copyLocs d q i) 0 0 → Put d Bk s₁ Tl → Laid B Bk q (q + i) (fun j => Value.int (lo8 (cv A (o + (j - q))))) →
      Steps p.tables e below (s₁.setTop (entryFrame m #[.ref b, .int (Int32.ofNat o), .ref d, .int (Int32.ofNat q), .int (Int32.ofNat len)] 7)) (Tl.setTop (mkF m 3 #[.val (.ref b), .val (.int (Int32.ofNat (o + i))), .val (.ref d), .val (.int (Int32.ofNat (q + i))), .val (.int (Int32.ofNat len)), .val (.int (Int32.ofNat i)), z] [])) → ∃ (T' : State) (B' : Cell) (z' : Slot), Stand p l e { frames := 0, locals := 0, cells := 0, slots := 0 } s m #[.ref b, .int (Int32.ofNat o), .ref d, .int (Int32.ofNat q), .int (Int32.ofNat len)] below meth c T' ([] ++ copyLocs d q len) 0 0 ∧ Put d B' s₁ T' ∧ Laid B B' q (q + len) (fun j => Value.int (lo8 (cv A (o + (j - q))))) ∧
      Steps p.tables e below (s₁.setTop (entryFrame m #[.ref b, .int (Int32.ofNat o), .ref d, .int (Int32.ofNat q), .int (Int32.ofNat len)] 7)) (T'.setTop (mkF m 3 #[.val (.ref b), .val (.int (Int32.ofNat (o + len))), .val (.ref d), .val (.int (Int32.ofNat (q + len))), .val (.int (Int32.ofNat len)), .val (.int (Int32.ofNat len)), z'] [])) := by
    intro r
    induction r with
    | zero =>
      intro i hi z hz Tl Bk Xl pl fl cl
      have hil : i = len := by omega
      rw [hil] at Xl fl cl
      exact ⟨Tl, Bk, z, Xl, pl, fl, cl⟩
    | succ r ih =>
      intro i hi z hz Tl Bk Xl pl fl cl
      have all := X0.warmed.alike.symm.trans Xl.warmed.alike
      have hAl := hA0.keep all (pl.other hne hA0.1)
      have hBk := hB0.like all pl.1 fl.1 fl.2.1 fl.2.2.1
      have hlt : q + i < Bk.slots.size := by rw [fl.2.2.1]; omega
      have c3 : Steps p.tables e below (s₁.setTop (entryFrame m #[.ref b, .int (Int32.ofNat o), .ref d, .int (Int32.ofNat q), .int (Int32.ofNat len)] 7)) (Tl.setTop (mkF m 12 #[.val (.ref b), .val (.int (Int32.ofNat (o + i))), .val (.ref d), .val (.int (Int32.ofNat (q + i))), .val (.int (Int32.ofNat len)), .val (.int (Int32.ofNat i)), z] [.int (Int32.ofNat (o + i)), .ref b])) := cl.trans (by
        refine XS.iload Xl.here hexec rfl (hb hbytes d3) rfl ?_
        refine XS.iload Xl.here hexec rfl (hb hbytes d5) rfl ?_
        refine XS.icmpNo Xl.here hexec rfl (hb hbytes d7) rfl (ii_ge_f (lt32 (by omega) (by omega))) ?_
        refine XS.aloadN Xl.here hexec rfl (hb hbytes d10) rfl rfl ?_
        refine XS.iloadN Xl.here hexec rfl (hb hbytes d11) rfl ?_
        exact Steps.refl _)
      have c4 : Steps p.tables e below (s₁.setTop (entryFrame m #[.ref b, .int (Int32.ofNat o), .ref d, .int (Int32.ofNat q), .int (Int32.ofNat len)] 7)) (Tl.setTop (mkF m 13 #[.val (.ref b), .val (.int (Int32.ofNat (o + i))), .val (.ref d), .val (.int (Int32.ofNat (q + i))), .val (.int (Int32.ofNat len)), .val (.int (Int32.ofNat i)), z] [.int (cv A (o + i))])) := c3.trans (by
        refine Xl.aget hexec hAl rfl (hA.get (i := o + i) (by omega)) rfl rfl (hb hbytes d12) ?_
        exact Steps.refl _)
      have c5 : Steps p.tables e below (s₁.setTop (entryFrame m #[.ref b, .int (Int32.ofNat o), .ref d, .int (Int32.ofNat q), .int (Int32.ofNat len)] 7)) (Tl.setTop (mkF m 15 #[.val (.ref b), .val (.int (Int32.ofNat (o + i))), .val (.ref d), .val (.int (Int32.ofNat (q + i))), .val (.int (Int32.ofNat len)), .val (.int (Int32.ofNat i)), .val (.int (cv A (o + i)))] [])) := c4.trans (by
        refine XS.istoreS Xl.here hexec rfl (hb hbytes d13) rfl rfl hz ?_
        exact Steps.refl _)
      have c6 : Steps p.tables e below (s₁.setTop (entryFrame m #[.ref b, .int (Int32.ofNat o), .ref d, .int (Int32.ofNat q), .int (Int32.ofNat len)] 7)) (Tl.setTop (mkF m 31 #[.val (.ref b), .val (.int (Int32.ofNat (o + i))), .val (.ref d), .val (.int (Int32.ofNat (q + i))), .val (.int (Int32.ofNat len)), .val (.int (Int32.ofNat i)), .val (.int (cv A (o + i)))] [.int (lo8 (cv A (o + i))), .int (Int32.ofNat (q + i)), .ref d])) := c5.trans (by
        refine XS.iload Xl.here hexec rfl (hb hbytes d15) rfl ?_
        refine sipushV Xl.here hexec rfl 255 (hb hbytes d17) (by decide) ?_
        refine XS.icmpYes Xl.here hexec rfl (pc0 := 20) rfl (hb hbytes d20) rfl (ii_le_t (hp i (by omega))) (by decide) rfl ?_
        refine XS.aloadN Xl.here hexec rfl (hb hbytes d26) rfl rfl ?_
        refine XS.iloadN Xl.here hexec rfl (hb hbytes d27) rfl ?_
        refine XS.iload Xl.here hexec rfl (hb hbytes d28) rfl ?_
        refine i2b Xl.here hexec rfl (hb hbytes d30) rfl ?_
        exact Steps.refl _)
      obtain ⟨T7, X7, p7, st7⟩ := Xl.aput hexec hBk rfl hlt rfl (fits_lo8 (cv A (o + i))) (g := (mkF m 31 #[.val (.ref b), .val (.int (Int32.ofNat (o + i))), .val (.ref d), .val (.int (Int32.ofNat (q + i))), .val (.int (Int32.ofNat len)), .val (.int (Int32.ofNat i)), .val (.int (cv A (o + i)))] [.int (lo8 (cv A (o + i))), .int (Int32.ofNat (q + i)), .ref d])) rfl (rest := []) rfl (hb hbytes d31)
      have c8 : Steps p.tables e below (s₁.setTop (entryFrame m #[.ref b, .int (Int32.ofNat o), .ref d, .int (Int32.ofNat q), .int (Int32.ofNat len)] 7)) (T7.setTop (mkF m 32 #[.val (.ref b), .val (.int (Int32.ofNat (o + i))), .val (.ref d), .val (.int (Int32.ofNat (q + i))), .val (.int (Int32.ofNat len)), .val (.int (Int32.ofNat i)), .val (.int (cv A (o + i)))] [])) := c6.trans (st7 _ (Steps.refl _))
      have c9 : Steps p.tables e below (s₁.setTop (entryFrame m #[.ref b, .int (Int32.ofNat o), .ref d, .int (Int32.ofNat q), .int (Int32.ofNat len)] 7)) (T7.setTop (mkF m 3 #[.val (.ref b), .val (.int (Int32.ofNat (o + i) + 1)), .val (.ref d), .val (.int (Int32.ofNat (q + i) + 1)), .val (.int (Int32.ofNat len)), .val (.int (Int32.ofNat i + 1)), .val (.int (cv A (o + i)))] [])) := c8.trans (by
        refine iincV X7.here hexec rfl 1 (hb hbytes d32) (by decide) rfl rfl ?_
        refine iincV X7.here hexec rfl 1 (hb hbytes d35) (by decide) rfl rfl ?_
        refine iincV X7.here hexec rfl 1 (hb hbytes d38) (by decide) rfl rfl ?_
        refine XS.goto X7.here hexec rfl (pc0 := 41) rfl (hb hbytes d41) (by decide) rfl ?_
        exact Steps.refl _)
      have c10 : Steps p.tables e below (s₁.setTop (entryFrame m #[.ref b, .int (Int32.ofNat o), .ref d, .int (Int32.ofNat q), .int (Int32.ofNat len)] 7)) (T7.setTop (mkF m 3 #[.val (.ref b), .val (.int (Int32.ofNat (o + (i + 1)))), .val (.ref d), .val (.int (Int32.ofNat (q + (i + 1)))), .val (.int (Int32.ofNat len)), .val (.int (Int32.ofNat (i + 1))), .val (.int (cv A (o + i)))] [])) := by
        have := c9
        rw [succ32, succ32, succ32] at this
        exact this
      exact ih (i + 1) (by omega) _ (Or.inr ⟨_, rfl, rfl⟩) T7 _ (by rw [copyLocs_step, ← List.append_assoc]; exact X7) (pl.trans p7) (fl.step (by omega) hlt (by simp)) c10
  obtain ⟨T9, B9, z9, X9, p9, f9, g9⟩ := loop len 0 (by omega) .unset (Or.inl rfl) s₁ B (by simpa [copyLocs] using X0) ⟨hB0.1, fun _ _ => rfl, rfl⟩ (Laid.zero _ _ _) c2
  have c11 : Steps p.tables e below (s₁.setTop (entryFrame m #[.ref b, .int (Int32.ofNat o), .ref d, .int (Int32.ofNat q), .int (Int32.ofNat len)] 7)) (T9.setTop (mkF m 46 #[.val (.ref b), .val (.int (Int32.ofNat (o + len))), .val (.ref d), .val (.int (Int32.ofNat (q + len))), .val (.int (Int32.ofNat len)), .val (.int (Int32.ofNat len)), z9] [.int (Int32.ofNat len)])) := g9.trans (by
    refine XS.iload X9.here hexec rfl (hb hbytes d3) rfl ?_
    refine XS.iload X9.here hexec rfl (hb hbytes d5) rfl ?_
    refine XS.icmpYes X9.here hexec rfl (pc0 := 7) rfl (hb hbytes d7) rfl (ii_ge_t (nlt32 (by omega) (Nat.le_refl _))) (by decide) rfl ?_
    refine XS.iload X9.here hexec rfl (hb hbytes d44) rfl ?_
    exact Steps.refl _)
  exact ⟨T9, some (.int (Int32.ofNat len)), _, _, _, X9, by simp, rfl, rfl, (fun h => by cases h), ⟨rfl, B9, p9.from hh0, f9⟩, fun fs hl => c11.trans (X9.ireturnOut hexec hret rfl (Or.inl rfl) (hb hbytes d46) hl)⟩
end Cmp5
namespace Cmp3
def yN : MethodName := ⟨"java/lang/StringUTF16", "compress", "([CII)[B"⟩
abbrev yB : ByteArray := jdk_52_method_16_code
theorem d0 : decode yB 0 = .ok (.iload_n 2, 1) := by decide +kernel
theorem d1 : decode yB 1 = .ok (.newarray .byte, 2) := by decide +kernel
theorem d3 : decode yB 3 = .ok (.astore_n 3, 1) := by decide +kernel
theorem d4 : decode yB 4 = .ok (.aload_n 0, 1) := by decide +kernel
theorem d5 : decode yB 5 = .ok (.iload_n 1, 1) := by decide +kernel
theorem d6 : decode yB 6 = .ok (.aload_n 3, 1) := by decide +kernel
theorem d7 : decode yB 7 = .ok (.iconst 0, 1) := by decide +kernel
theorem d8 : decode yB 8 = .ok (.iload_n 2, 1) := by decide +kernel
theorem d9 : decode yB 9 = .ok (.invokestatic 115, 3) := by decide +kernel
theorem d12 : decode yB 12 = .ok (.istore 4, 2) := by decide +kernel
theorem d14 : decode yB 14 = .ok (.iload 4, 2) := by decide +kernel
theorem d16 : decode yB 16 = .ok (.iload_n 2, 1) := by decide +kernel
theorem d17 : decode yB 17 = .ok (.if_icmp (.eq) 40, 3) := by decide +kernel
theorem d57 : decode yB 57 = .ok (.aload_n 3, 1) := by decide +kernel
theorem d58 : decode yB 58 = .ok (.areturn, 1) := by decide +kernel
def site : List Cond := [.arrayClass .byte, Cmp5.tab] ++ staticW U16 115 Cmp5.yN
def tab : Cond := tabOf yN yB 6 (some (.array .byte)) site
def P (b : Addr) (A : Cell) (o len : Nat) (args : Array Value) (s : State) : Prop := args = #[.ref b, .int (Int32.ofNat o), .int (Int32.ofNat len)] ∧ Ch b A s ∧ o + len ≤ A.slots.size ∧ len ≤ 536870912 ∧ ∀ i, i < len → ¬ 255 < cv A (o + i)
def E (b : Addr) (A : Cell) (o len : Nat) (r : Option Value) (s u : State) : Prop := NewArr .byte "[B" len (fun j => .int (lo8 (cv A (o + j)))) r s u ∧ u.heap.size = s.heap.size + 1
/-- no char of the range above 255: a new byte[] of their low bytes -/
theorem law (l : Launch) (b : Addr) (A : Cell) (o len : Nat) : Law l yN 3 3 1 18 yB 6 (some (.array .byte)) site (P b A o len) (E b A o len) [] 1 len := by
  refine Law.of_walk (plainFor_of_name (by decide +kernel)) (by decide +kernel) (by decide +kernel) (by decide) (fun _ _ h => by rw [h.1]; rfl) (fun _ U U' hal hh h => ⟨h.1, h.2.1.mv hal hh, h.2.2⟩) (fun r U U' V V' h1 hal h2 h => ⟨NewArr.mv r U U' V V' h1 hal h2 h.1, by rw [h1, h2]; exact h.2⟩) ?_
  intro p e s m args below meth c s₁ X0 hexec hbytes hml hret hlk hnm hown hh0 W hP
  obtain ⟨rfl, hA, l1, l2, hp⟩ := hP
  have a31 := hA.1.2.2.2
  have c1 : Steps p.tables e below (s₁.setTop (entryFrame m #[.ref b, .int (Int32.ofNat o), .int (Int32.ofNat len)] 6)) (s₁.setTop (mkF m 0 #[.val (.ref b), .val (.int (Int32.ofNat o)), .val (.int (Int32.ofNat len)), .unset, .unset, .unset] [])) := entry rfl
  have c2 : Steps p.tables e below (s₁.setTop (entryFrame m #[.ref b, .int (Int32.ofNat o), .int (Int32.ofNat len)] 6)) (s₁.setTop (mkF m 1 #[.val (.ref b), .val (.int (Int32.ofNat o)), .val (.int (Int32.ofNat len)), .unset, .unset, .unset] [.int (Int32.ofNat len)])) := c1.trans (by
    refine XS.iloadN X0.here hexec rfl (hb hbytes d0) rfl ?_
    exact Steps.refl _)
  obtain ⟨T3, B3, X3, ba3, bs3, bv3, bh3, bf3, st3⟩ := X0.anew hexec (atype := .byte) (wk W (.arrayClass .byte)) rfl (by show len * 1 ≤ _; omega) (by omega) (g := (mkF m 1 #[.val (.ref b), .val (.int (Int32.ofNat o)), .val (.int (Int32.ofNat len)), .unset, .unset, .unset] [.int (Int32.ofNat len)])) rfl (hb hbytes d1) (rest := []) rfl (Nat.le_refl _) (by show 0 + len ≤ len; omega)
  rw [hh0] at ba3 st3
  have kp3 : XT.Kept s T3 := (XT.Kept.of_eq hh0).push bh3
  have hA3 := hA.keep X3.warmed.alike (kp3 _ _ hA.1.1)
  have hne : b ≠ s.heap.size := hA.1.ne
  have c4 : Steps p.tables e below (s₁.setTop (entryFrame m #[.ref b, .int (Int32.ofNat o), .int (Int32.ofNat len)] 6)) (T3.setTop (mkF m 3 #[.val (.ref b), .val (.int (Int32.ofNat o)), .val (.int (Int32.ofNat len)), .unset, .unset, .unset] [.ref s.heap.size])) := c2.trans (st3 _ (Steps.refl _))
  have c5 : Steps p.tables e below (s₁.setTop (entryFrame m #[.ref b, .int (Int32.ofNat o), .int (Int32.ofNat len)] 6)) (T3.setTop (mkF m 9 #[.val (.ref b), .val (.int (Int32.ofNat o)), .val (.int (Int32.ofNat len)), .val (.ref s.heap.size), .unset, .unset] [.int (Int32.ofNat len), .int 0, .ref s.heap.size, .int (Int32.ofNat o), .ref b])) := c4.trans (by
    refine XS.astoreN X3.here hexec rfl (hb hbytes d3) rfl rfl rfl ?_
    refine XS.aloadN X3.here hexec rfl (hb hbytes d4) rfl rfl ?_
    refine XS.iloadN X3.here hexec rfl (hb hbytes d5) rfl ?_
    refine XS.aloadN X3.here hexec rfl (hb hbytes d6) rfl rfl ?_
    refine iconstV X3.here hexec rfl 0 (hb hbytes d7) (by decide) ?_
    refine XS.iloadN X3.here hexec rfl (hb hbytes d8) rfl ?_
    exact Steps.refl _)
  obtain ⟨v6, T6, X6, E6, g6⟩ := X3.callS hexec (Cmp5.law l b A s.heap.size B3 o 0 len) hown (wks W (staticW U16 115 Cmp5.yN)) (wk W Cmp5.tab) (W := 0) (Nat.le_of_ble_eq_true rfl) (Nat.le_of_ble_eq_true rfl) (Nat.le_refl _) (by show 0 + len + 0 ≤ len; omega) (g := (mkF m 9 #[.val (.ref b), .val (.int (Int32.ofNat o)), .val (.int (Int32.ofNat len)), .val (.ref s.heap.size), .unset, .unset] [.int (Int32.ofNat len), .int (Int32.ofNat 0), .ref s.heap.size, .int (Int32.ofNat o), .ref b])) rfl (by rw [hml]; rfl) c5 (argsL := [.ref b, .int (Int32.ofNat o), .ref s.heap.size, .int (Int32.ofNat 0), .int (Int32.ofNat len)]) (rest := []) rfl rfl (by show 2 * 0 + 0 ≤ _; decide) (hb hbytes d9) (⟨rfl, hA3, ba3, hne, l1, by rw [bs3]; simp, hp⟩)
  obtain ⟨rfl, B6, p6, f6⟩ := E6
  have c7 : Steps p.tables e below (s₁.setTop (entryFrame m #[.ref b, .int (Int32.ofNat o), .int (Int32.ofNat len)] 6)) (T6.setTop (mkF m 12 #[.val (.ref b), .val (.int (Int32.ofNat o)), .val (.int (Int32.ofNat len)), .val (.ref s.heap.size), .unset, .unset] [.int (Int32.ofNat len)])) := g6
  have c8 : Steps p.tables e below (s₁.setTop (entryFrame m #[.ref b, .int (Int32.ofNat o), .int (Int32.ofNat len)] 6)) (T6.setTop (mkF m 58 #[.val (.ref b), .val (.int (Int32.ofNat o)), .val (.int (Int32.ofNat len)), .val (.ref s.heap.size), .val (.int (Int32.ofNat len)), .unset] [.ref s.heap.size])) := c7.trans (by
    refine XS.istore X6.here hexec rfl (hb hbytes d12) rfl rfl ?_
    refine XS.iload X6.here hexec rfl (hb hbytes d14) rfl ?_
    refine XS.iloadN X6.here hexec rfl (hb hbytes d16) rfl ?_
    refine XS.icmpYes X6.here hexec rfl (pc0 := 17) rfl (hb hbytes d17) rfl (ii_eq_t rfl) (by decide) rfl ?_
    refine XS.aloadN X6.here hexec rfl (hb hbytes d57) rfl rfl ?_
    exact Steps.refl _)
  have X8 := X6.wide (L' := []) (cells' := 1) (slots' := len) (fun x hx hlt => by
    simp only [List.nil_append, copyLocs, List.mem_map, List.mem_range] at hx
    obtain ⟨i, -, rfl⟩ := hx
    exact absurd hlt (Nat.lt_irrefl _)) (Nat.le_refl _) (by omega)
  exact ⟨T6, some (.ref s.heap.size), _, _, _, X8, rfl, rfl, rfl, (fun h => by cases h), ⟨⟨rfl, B6, ba3.like (X3.warmed.alike.symm.trans X6.warmed.alike) p6.1 f6.1 f6.2.1 f6.2.2.1, f6.2.1.trans bv3, by rw [X6.warmed.alike.findClass, f6.1]; exact bf3, by rw [f6.2.2.1, bs3]; simp, fun j hj => by rw [f6.2.2.2 j, if_pos (by omega)]; rfl, kp3.put p6 (Nat.le_refl _)⟩, by rw [p6.2.2, bh3, hh0]; simp⟩, fun fs hl => c8.trans (X8.areturnOut hexec rfl hret rfl (hb hbytes d58) hl)⟩
end Cmp3
namespace CodL
def yN : MethodName := ⟨"java/lang/StringUTF16", "coderFromArrayLen", "([BI)B"⟩
abbrev yB : ByteArray := jdk_52_method_15_code
theorem d0 : decode yB 0 = .ok (.iload_n 1, 1) := by decide +kernel
theorem d1 : decode yB 1 = .ok (.aload_n 0, 1) := by decide +kernel
theorem d2 : decode yB 2 = .ok (.arraylength, 1) := by decide +kernel
theorem d3 : decode yB 3 = .ok (.isub, 1) := by decide +kernel
theorem d4 : decode yB 4 = .ok (.bipush 31, 2) := by decide +kernel
theorem d6 : decode yB 6 = .ok (.iushr, 1) := by decide +kernel
theorem d7 : decode yB 7 = .ok (.i2b, 1) := by decide +kernel
theorem d8 : decode yB 8 = .ok (.ireturn, 1) := by decide +kernel
def site : List Cond := []
def tab : Cond := tabOf yN yB 2 (some .byte) site
def P (d : Addr) (B : Cell) (args : Array Value) (s : State) : Prop := args = #[.ref d, .int (Int32.ofNat B.slots.size)] ∧ Arr .byte d B s
def E (r : Option Value) (s u : State) : Prop := XT.PureE (some (.int 0)) r s u
/-- an array as long as the number of chars: LATIN1 -/
theorem law (l : Launch) (d : Addr) (B : Cell) : Law l yN 2 2 0 0 yB 2 (some .byte) site (P d B) E [] 0 0 := by
  refine Law.of_walk (plainFor_of_name (by decide +kernel)) (by decide +kernel) (by decide +kernel) (by decide) (fun _ _ h => by rw [h.1]; rfl) (fun _ U U' hal hh h => ⟨h.1, h.2.mv hal hh⟩) (fun r U U' V V' h1 hal h2 h => XT.PureE.mv r U U' V V' h1 hal h2 h) ?_
  intro p e s m args below meth c s₁ X0 hexec hbytes hml hret hlk hnm hown hh0 W hP
  obtain ⟨rfl, hB⟩ := hP
  have hB0 := hB.mv X0.warmed.alike hh0
  have c1 : Steps p.tables e below (s₁.setTop (entryFrame m #[.ref d, .int (Int32.ofNat B.slots.size)] 2)) (s₁.setTop (mkF m 0 #[.val (.ref d), .val (.int (Int32.ofNat B.slots.size))] [])) := entry rfl
  have c2 : Steps p.tables e below (s₁.setTop (entryFrame m #[.ref d, .int (Int32.ofNat B.slots.size)] 2)) (s₁.setTop (mkF m 2 #[.val (.ref d), .val (.int (Int32.ofNat B.slots.size))] [.ref d, .int (Int32.ofNat B.slots.size)])) := c1.trans (by
    refine XS.iloadN X0.here hexec rfl (hb hbytes d0) rfl ?_
    refine XS.aloadN X0.here hexec rfl (hb hbytes d1) rfl rfl ?_
    exact Steps.refl _)
  have c3 : Steps p.tables e below (s₁.setTop (entryFrame m #[.ref d, .int (Int32.ofNat B.slots.size)] 2)) (s₁.setTop (mkF m 8 #[.val (.ref d), .val (.int (Int32.ofNat B.slots.size))] [.int (lo8 (ushr (Int32.ofNat B.slots.size - Int32.ofNat B.slots.size) 31))])) := c2.trans (by
    refine X0.alen hexec hB0 rfl rfl (hb hbytes d2) ?_
    refine XS.isub X0.here hexec rfl (hb hbytes d3) rfl ?_
    refine bipushV X0.here hexec rfl 31 (hb hbytes d4) (by decide) ?_
    refine iushr X0.here hexec rfl (hb hbytes d6) rfl ?_
    refine i2b X0.here hexec rfl (hb hbytes d7) rfl ?_
    exact Steps.refl _)
  have e0 : lo8 (ushr (Int32.ofNat B.slots.size - Int32.ofNat B.slots.size) 31) = 0 := by rw [Int32.sub_self]; decide
  rw [e0] at c3
  exact ⟨s₁, some (.int 0), _, _, _, X0, rfl, rfl, rfl, (fun h => by cases h), ⟨rfl, hh0⟩, fun fs hl => c3.trans (X0.ireturnOut hexec hret rfl (Or.inr (Or.inr (Or.inl rfl))) (hb hbytes d8) hl)⟩
end CodL
/-- the String at a is Latin-1 over a new byte[] (the heap's one new cell): the low bytes of the len chars of A from o on; every cell but a is kept -/
def Got (a : Addr) (D : Cell) (fV fC : Field) (A : Cell) (o len : Nat) (r : Option Value) (s u : State) : Prop := r = none ∧ ∃ D' V : Cell, Blank "java/lang/String" a D' u ∧ Same D D' [fV.slot, fC.slot] ∧ D'.slots[fV.slot]? = some (.ref s.heap.size) ∧ D'.slots[fC.slot]? = some (.int 0) ∧ Arr .byte s.heap.size V u ∧ V.vm = .none ∧ u.vm.findClass "[B" = some V.cls ∧ V.slots.size = len ∧ (∀ j, j < len → V.slots[j]? = some (.int (lo8 (cv A (o + j))))) ∧ (∀ (y : Addr) (c : Cell), y ≠ a → s.heap[y]? = some c → u.heap[y]? = some c) ∧ u.heap.size = s.heap.size + 1
theorem Got.mv {a : Addr} {D A : Cell} {fV fC : Field} {o len : Nat} : ∀ r (U U' V V' : State), U'.heap = U.heap → V.vm.Alike V'.vm → V'.heap = V.heap → Got a D fV fC A o len r U V → Got a D fV fC A o len r U' V' :=
  fun r U U' V V' h1 hal h2 ⟨e0, D', X, a1, a2, a3, a4, a5, a6, a7, a8, a9, a10, a11⟩ => ⟨e0, D', X, a1.mv hal h2, a2, by rw [h1]; exact a3, a4, by rw [h1]; exact a5.mv hal h2, a6, by rw [hal.findClass]; exact a7, a8, a9, by rw [h1, h2]; exact a10, by rw [h1, h2]; exact a11⟩
namespace New4
def yN : MethodName := ⟨"java/lang/String", "<init>", "([CIILjava/lang/Void;)V"⟩
abbrev yB : ByteArray := jdk_42_method_149_code
theorem d0 : decode yB 0 = .ok (.aload_n 0, 1) := by decide +kernel
theorem d1 : decode yB 1 = .ok (.invokespecial 1, 3) := by decide +kernel
theorem d4 : decode yB 4 = .ok (.iload_n 3, 1) := by decide +kernel
theorem d5 : decode yB 5 = .ok (.ifCond (.ne) 22, 3) := by decide +kernel
theorem d27 : decode yB 27 = .ok (.getstatic 38, 3) := by decide +kernel
theorem d30 : decode yB 30 = .ok (.ifCond (.eq) 28, 3) := by decide +kernel
theorem d33 : decode yB 33 = .ok (.aload_n 1, 1) := by decide +kernel
theorem d34 : decode yB 34 = .ok (.iload_n 2, 1) := by decide +kernel
theorem d35 : decode yB 35 = .ok (.iload_n 3, 1) := by decide +kernel
theorem d36 : decode yB 36 = .ok (.invokestatic 177, 3) := by decide +kernel
theorem d39 : decode yB 39 = .ok (.astore 5, 2) := by decide +kernel
theorem d41 : decode yB 41 = .ok (.aload_n 0, 1) := by decide +kernel
theorem d42 : decode yB 42 = .ok (.aload 5, 2) := by decide +kernel
theorem d44 : decode yB 44 = .ok (.iload_n 3, 1) := by decide +kernel
theorem d45 : decode yB 45 = .ok (.invokestatic 47, 3) := by decide +kernel
theorem d48 : decode yB 48 = .ok (.putfield 15, 3) := by decide +kernel
theorem d51 : decode yB 51 = .ok (.aload_n 0, 1) := by decide +kernel
theorem d52 : decode yB 52 = .ok (.aload 5, 2) := by decide +kernel
theorem d54 : decode yB 54 = .ok (.putfield 9, 3) := by decide +kernel
theorem d57 : decode yB 57 = .ok (.return_, 1) := by decide +kernel
def site : List Cond := [.fieldLink "java/lang/String" 38 "java/lang/String" "COMPACT_STRINGS" "Z", Cmp3.tab, CodL.tab, .laysFinal "java/lang/String" "java/lang/String" "value" "[B", .fieldLink "java/lang/String" 9 "java/lang/String" "value" "[B", .laysFinal "java/lang/String" "java/lang/String" "coder" "B", .fieldLink "java/lang/String" 15 "java/lang/String" "coder" "B"] ++ objW "java/lang/String" 1 ++ staticW "java/lang/String" 177 Cmp3.yN ++ staticW "java/lang/String" 47 CodL.yN
def tab : Cond := tabOf yN yB 6 none site
def P (a : Addr) (D : Cell) (fV fC : Field) (b : Addr) (A : Cell) (z : Int32) (o len : Nat) (args : Array Value) (s : State) : Prop := args = #[.ref a, .ref b, .int (Int32.ofNat o), .int (Int32.ofNat len), .null] ∧ Blank "java/lang/String" a D s ∧ Found "java/lang/String" "value" "[B" fV s ∧ Found "java/lang/String" "coder" "B" fC s ∧ Ch b A s ∧ StaticIs s "java/lang/String" "COMPACT_STRINGS" "Z" (.int z) ∧ ¬ z = 0 ∧ 0 < len ∧ o + len ≤ A.slots.size ∧ len ≤ 536870912 ∧ ∀ i, i < len → ¬ 255 < cv A (o + i)
def E (a : Addr) (D : Cell) (fV fC : Field) (A : Cell) (o len : Nat) (r : Option Value) (s u : State) : Prop := Got a D fV fC A o len r s u
/-- len > 0, no char of the range above 255: a Latin-1 String of their low bytes -/
theorem law (l : Launch) (a : Addr) (D : Cell) (fV fC : Field) (b : Addr) (A : Cell) (z : Int32) (o len : Nat) : Law l yN 5 4 2 35 yB 6 none site (P a D fV fC b A z o len) (E a D fV fC A o len) [⟨a, fC.slot⟩, ⟨a, fV.slot⟩] 1 len := by
  refine Law.of_walk (plainFor_of_name (by decide +kernel)) (by decide +kernel) (by decide +kernel) (by decide) (fun _ _ h => by rw [h.1]; rfl) (fun _ U U' hal hh h => ⟨h.1, h.2.1.mv hal hh, h.2.2.1.al hal, h.2.2.2.1.al hal, h.2.2.2.2.1.mv hal hh, h.2.2.2.2.2.1.there hal hh, h.2.2.2.2.2.2⟩) (fun r U U' V V' h1 hal h2 h => Got.mv r U U' V V' h1 hal h2 h) ?_
  intro p e s m args below meth c s₁ X0 hexec hbytes hml hret hlk hnm hown hh0 W hP
  obtain ⟨rfl, hB, f1, f2, hA, s1, hz, l0, l1, l2, hp⟩ := hP
  have a31 := hA.1.2.2.2
  have c1 : Steps p.tables e below (s₁.setTop (entryFrame m #[.ref a, .ref b, .int (Int32.ofNat o), .int (Int32.ofNat len), .null] 6)) (s₁.setTop (mkF m 0 #[.val (.ref a), .val (.ref b), .val (.int (Int32.ofNat o)), .val (.int (Int32.ofNat len)), .val .null, .unset] [])) := entry rfl
  have c2 : Steps p.tables e below (s₁.setTop (entryFrame m #[.ref a, .ref b, .int (Int32.ofNat o), .int (Int32.ofNat len), .null] 6)) (s₁.setTop (mkF m 1 #[.val (.ref a), .val (.ref b), .val (.int (Int32.ofNat o)), .val (.int (Int32.ofNat len)), .val .null, .unset] [.ref a])) := c1.trans (by
    refine XS.aloadN X0.here hexec rfl (hb hbytes d0) rfl rfl ?_
    exact Steps.refl _)
  obtain ⟨T3, X3, q3, st3⟩ := X0.oinit hexec hown (wks W (objW "java/lang/String" 1)) (g := (mkF m 1 #[.val (.ref a), .val (.ref b), .val (.int (Int32.ofNat o)), .val (.int (Int32.ofNat len)), .val .null, .unset] [.ref a])) rfl (by rw [hml]; rfl) (rest := []) rfl (hb hbytes d1) (W := 0) (by show 2 * 0 + 0 ≤ _; decide) (Nat.le_of_ble_eq_true rfl) (Nat.le_of_ble_eq_true rfl)
  have hh3 := q3.trans hh0
  have c4 : Steps p.tables e below (s₁.setTop (entryFrame m #[.ref a, .ref b, .int (Int32.ofNat o), .int (Int32.ofNat len), .null] 6)) (T3.setTop (mkF m 27 #[.val (.ref a), .val (.ref b), .val (.int (Int32.ofNat o)), .val (.int (Int32.ofNat len)), .val .null, .unset] [])) := (c2.trans (st3 _ (Steps.refl _))).trans (by
    refine XS.iloadN X3.here hexec rfl (hb hbytes d4) rfl ?_
    refine XS.ifYes X3.here hexec rfl (pc0 := 5) rfl (hb hbytes d5) rfl (i0_ne_t (nz32 (by omega) l0)) (by decide) rfl ?_
    exact Steps.refl _)
  obtain ⟨T5, X5, q5, st5⟩ := X3.sget hexec hown (wk W (.fieldLink "java/lang/String" 38 "java/lang/String" "COMPACT_STRINGS" "Z")) s1 (fun _ _ h => by rw [hh3]; exact h) (g := (mkF m 27 #[.val (.ref a), .val (.ref b), .val (.int (Int32.ofNat o)), .val (.int (Int32.ofNat len)), .val .null, .unset] [])) rfl (hb hbytes d27)
  have hh5 := q5.trans hh3
  have c6 : Steps p.tables e below (s₁.setTop (entryFrame m #[.ref a, .ref b, .int (Int32.ofNat o), .int (Int32.ofNat len), .null] 6)) (T5.setTop (mkF m 30 #[.val (.ref a), .val (.ref b), .val (.int (Int32.ofNat o)), .val (.int (Int32.ofNat len)), .val .null, .unset] [.int z])) := c4.trans (st5 _ (Steps.refl _))
  have c7 : Steps p.tables e below (s₁.setTop (entryFrame m #[.ref a, .ref b, .int (Int32.ofNat o), .int (Int32.ofNat len), .null] 6)) (T5.setTop (mkF m 36 #[.val (.ref a), .val (.ref b), .val (.int (Int32.ofNat o)), .val (.int (Int32.ofNat len)), .val .null, .unset] [.int (Int32.ofNat len), .int (Int32.ofNat o), .ref b])) := c6.trans (by
    refine XS.ifNo X5.here hexec rfl (hb hbytes d30) rfl (i0_eq_f hz) ?_
    refine XS.aloadN X5.here hexec rfl (hb hbytes d33) rfl rfl ?_
    refine XS.iloadN X5.here hexec rfl (hb hbytes d34) rfl ?_
    refine XS.iloadN X5.here hexec rfl (hb hbytes d35) rfl ?_
    exact Steps.refl _)
  obtain ⟨v8, T8, X8, E8, g8⟩ := X5.callS hexec (Cmp3.law l b A o len) hown (wks W (staticW "java/lang/String" 177 Cmp3.yN)) (wk W Cmp3.tab) (W := 0) (Nat.le_of_ble_eq_true rfl) (Nat.le_of_ble_eq_true rfl) (Nat.le_refl _) (by show 0 + len ≤ len; omega) (g := (mkF m 36 #[.val (.ref a), .val (.ref b), .val (.int (Int32.ofNat o)), .val (.int (Int32.ofNat len)), .val .null, .unset] [.int (Int32.ofNat len), .int (Int32.ofNat o), .ref b])) rfl (by rw [hml]; rfl) c7 (argsL := [.ref b, .int (Int32.ofNat o), .int (Int32.ofNat len)]) (rest := []) rfl rfl (by show 2 * 0 + 0 ≤ _; decide) (hb hbytes d36) (⟨rfl, hA.mv X5.warmed.alike hh5, l1, l2, hp⟩)
  obtain ⟨e8, z8⟩ := E8
  obtain ⟨rfl, N, n1, n2, n3, n4, n5, n6⟩ := NewArr.mv _ T5 s _ _ hh5.symm (Vm.Alike.refl _) rfl e8
  rw [hh5] at z8
  have hB1 := hB.keep X8.warmed.alike (n6 _ _ hB.1)
  have hne : s.heap.size ≠ a := (Nat.ne_of_lt (Array.getElem?_eq_some_iff.mp hB.1).1).symm
  have c9 : Steps p.tables e below (s₁.setTop (entryFrame m #[.ref a, .ref b, .int (Int32.ofNat o), .int (Int32.ofNat len), .null] 6)) (T8.setTop (mkF m 39 #[.val (.ref a), .val (.ref b), .val (.int (Int32.ofNat o)), .val (.int (Int32.ofNat len)), .val .null, .unset] [.ref s.heap.size])) := g8
  have c10 : Steps p.tables e below (s₁.setTop (entryFrame m #[.ref a, .ref b, .int (Int32.ofNat o), .int (Int32.ofNat len), .null] 6)) (T8.setTop (mkF m 45 #[.val (.ref a), .val (.ref b), .val (.int (Int32.ofNat o)), .val (.int (Int32.ofNat len)), .val .null, .val (.ref s.heap.size)] [.int (Int32.ofNat N.slots.size), .ref s.heap.size, .ref a])) := by
    have hc : Steps p.tables e below (s₁.setTop (entryFrame m #[.ref a, .ref b, .int (Int32.ofNat o), .int (Int32.ofNat len), .null] 6)) (T8.setTop (mkF m 45 #[.val (.ref a), .val (.ref b), .val (.int (Int32.ofNat o)), .val (.int (Int32.ofNat len)), .val .null, .val (.ref s.heap.size)] [.int (Int32.ofNat len), .ref s.heap.size, .ref a])) := c9.trans (by
      refine XS.astore X8.here hexec rfl (hb hbytes d39) rfl rfl rfl ?_
      refine XS.aloadN X8.here hexec rfl (hb hbytes d41) rfl rfl ?_
      refine XS.aload X8.here hexec rfl (hb hbytes d42) rfl rfl ?_
      refine XS.iloadN X8.here hexec rfl (hb hbytes d44) rfl ?_
      exact Steps.refl _)
    rw [n4]; exact hc
  obtain ⟨v11, T11, X11, E11, g11⟩ := X8.callS hexec (CodL.law l s.heap.size N) hown (wks W (staticW "java/lang/String" 47 CodL.yN)) (wk W CodL.tab) (W := 1) (Nat.le_of_ble_eq_true rfl) (Nat.le_of_ble_eq_true rfl) (Nat.le_refl _) (by show 0 + len + 0 ≤ len; omega) (g := (mkF m 45 #[.val (.ref a), .val (.ref b), .val (.int (Int32.ofNat o)), .val (.int (Int32.ofNat len)), .val .null, .val (.ref s.heap.size)] [.int (Int32.ofNat N.slots.size), .ref s.heap.size, .ref a])) rfl (by rw [hml]; rfl) c10 (argsL := [.ref s.heap.size, .int (Int32.ofNat N.slots.size)]) (rest := [.ref a]) rfl rfl (by show 2 * 0 + (1 + 0) ≤ _; decide) (hb hbytes d45) (⟨rfl, n1⟩)
  obtain ⟨rfl, q11⟩ := E11
  have hB11 := hB1.mv (X8.warmed.alike.symm.trans X11.warmed.alike) q11
  have c12 : Steps p.tables e below (s₁.setTop (entryFrame m #[.ref a, .ref b, .int (Int32.ofNat o), .int (Int32.ofNat len), .null] 6)) (T11.setTop (mkF m 48 #[.val (.ref a), .val (.ref b), .val (.int (Int32.ofNat o)), .val (.int (Int32.ofNat len)), .val .null, .val (.ref s.heap.size)] [.int 0, .ref a])) := g11
  obtain ⟨T13, X13, p13, bl13, sl13, st13⟩ := X11.finit hexec hown (wk W (.fieldLink "java/lang/String" 15 "java/lang/String" "coder" "B")) (Or.inr ⟨_, (wk W (.laysFinal "java/lang/String" "java/lang/String" "coder" "B"))⟩) (Or.inl ⟨rfl, hnm⟩) f2 (Or.inl rfl) hB11 (t := .byte) (by decide +kernel) rfl (g := (mkF m 48 #[.val (.ref a), .val (.ref b), .val (.int (Int32.ofNat o)), .val (.int (Int32.ofNat len)), .val .null, .val (.ref s.heap.size)] [.int 0, .ref a])) rfl (rest := []) rfl (hb hbytes d48)
  have c14 : Steps p.tables e below (s₁.setTop (entryFrame m #[.ref a, .ref b, .int (Int32.ofNat o), .int (Int32.ofNat len), .null] 6)) (T13.setTop (mkF m 54 #[.val (.ref a), .val (.ref b), .val (.int (Int32.ofNat o)), .val (.int (Int32.ofNat len)), .val .null, .val (.ref s.heap.size)] [.ref s.heap.size, .ref a])) := (c12.trans (st13 _ (Steps.refl _))).trans (by
    refine XS.aloadN X13.here hexec rfl (hb hbytes d51) rfl rfl ?_
    refine XS.aload X13.here hexec rfl (hb hbytes d52) rfl rfl ?_
    exact Steps.refl _)
  obtain ⟨T15, X15, p15, bl15, sl15, st15⟩ := X13.finit hexec hown (wk W (.fieldLink "java/lang/String" 9 "java/lang/String" "value" "[B")) (Or.inr ⟨_, (wk W (.laysFinal "java/lang/String" "java/lang/String" "value" "[B"))⟩) (Or.inl ⟨rfl, hnm⟩) f1 (Or.inl rfl) bl13 (t := (.array .byte)) (by decide +kernel) rfl (g := (mkF m 54 #[.val (.ref a), .val (.ref b), .val (.int (Int32.ofNat o)), .val (.int (Int32.ofNat len)), .val .null, .val (.ref s.heap.size)] [.ref s.heap.size, .ref a])) rfl (rest := []) rfl (hb hbytes d54)
  have c16 : Steps p.tables e below (s₁.setTop (entryFrame m #[.ref a, .ref b, .int (Int32.ofNat o), .int (Int32.ofNat len), .null] 6)) (T15.setTop (mkF m 57 #[.val (.ref a), .val (.ref b), .val (.int (Int32.ofNat o)), .val (.int (Int32.ofNat len)), .val .null, .val (.ref s.heap.size)] [])) := c14.trans (st15 _ (Steps.refl _))
  have ap := apart (Or.inr ⟨_, (wk W (.laysFinal "java/lang/String" "java/lang/String" "value" "[B"))⟩) (Or.inr ⟨_, (wk W (.laysFinal "java/lang/String" "java/lang/String" "coder" "B"))⟩) f1 f2 (t₁ := .array .byte) (t₂ := .byte) (by decide +kernel) (by decide +kernel) (by decide)
  have al := X8.warmed.alike.symm.trans X15.warmed.alike
  have n7 : T11.heap[s.heap.size]? = some N := by rw [q11]; exact n1.1
  exact ⟨T15, none, _, _, _, X15, by simp, rfl, by omega, (fun _ => rfl), ⟨rfl, _, N, bl15, ((Same.refl D _).set _ (by simp)).set _ (by simp), sl15, (Cell.slots_setSlot_ne _ ap).trans sl13, n1.keep al (p15.other hne (p13.other hne n7)), n2, by rw [al.findClass]; exact n3, n4, n5, fun y c h1 h2 => p15.other h1 (p13.other h1 (by rw [q11]; exact n6 y c h2)), by rw [p15.2.2, p13.2.2, q11]; exact z8⟩, fun fs hl => c16.trans (X15.returnOut hexec hret (hb hbytes d57) hl)⟩
end New4
namespace New1
def yN : MethodName := ⟨"java/lang/String", "<init>", "([C)V"⟩
abbrev yB : ByteArray := jdk_42_method_3_code
theorem d0 : decode yB 0 = .ok (.aload_n 0, 1) := by decide +kernel
theorem d1 : decode yB 1 = .ok (.aload_n 1, 1) := by decide +kernel
theorem d2 : decode yB 2 = .ok (.iconst 0, 1) := by decide +kernel
theorem d3 : decode yB 3 = .ok (.aload_n 1, 1) := by decide +kernel
theorem d4 : decode yB 4 = .ok (.arraylength, 1) := by decide +kernel
theorem d5 : decode yB 5 = .ok (.aconst_null, 1) := by decide +kernel
theorem d6 : decode yB 6 = .ok (.invokespecial 27, 3) := by decide +kernel
theorem d9 : decode yB 9 = .ok (.return_, 1) := by decide +kernel
def site : List Cond := [New4.tab] ++ initW "java/lang/String" 27 New4.yN
def tab : Cond := tabOf yN yB 2 none site
def P (a : Addr) (D : Cell) (fV fC : Field) (b : Addr) (A : Cell) (z : Int32) (args : Array Value) (s : State) : Prop := args = #[.ref a, .ref b] ∧ Blank "java/lang/String" a D s ∧ Found "java/lang/String" "value" "[B" fV s ∧ Found "java/lang/String" "coder" "B" fC s ∧ Ch b A s ∧ StaticIs s "java/lang/String" "COMPACT_STRINGS" "Z" (.int z) ∧ ¬ z = 0 ∧ 0 < A.slots.size ∧ A.slots.size ≤ 536870912 ∧ ∀ i, i < A.slots.size → ¬ 255 < cv A i
def E (a : Addr) (D : Cell) (fV fC : Field) (A : Cell) (r : Option Value) (s u : State) : Prop := Got a D fV fC A 0 A.slots.size r s u
/-- new String(chars), not empty, no char above 255: a Latin-1 String of their low bytes -/
theorem law (l : Launch) (a : Addr) (D : Cell) (fV fC : Field) (b : Addr) (A : Cell) (z : Int32) : Law l yN 2 1 3 52 yB 2 none site (P a D fV fC b A z) (E a D fV fC A) [⟨a, fC.slot⟩, ⟨a, fV.slot⟩] 1 A.slots.size := by
  refine Law.of_walk (plainFor_of_name (by decide +kernel)) (by decide +kernel) (by decide +kernel) (by decide) (fun _ _ h => by rw [h.1]; rfl) (fun _ U U' hal hh h => ⟨h.1, h.2.1.mv hal hh, h.2.2.1.al hal, h.2.2.2.1.al hal, h.2.2.2.2.1.mv hal hh, h.2.2.2.2.2.1.there hal hh, h.2.2.2.2.2.2⟩) (fun r U U' V V' h1 hal h2 h => Got.mv r U U' V V' h1 hal h2 h) ?_
  intro p e s m args below meth c s₁ X0 hexec hbytes hml hret hlk hnm hown hh0 W hP
  obtain ⟨rfl, hB, f1, f2, hA, s1, hz, l0, l2, hp⟩ := hP
  have c1 : Steps p.tables e below (s₁.setTop (entryFrame m #[.ref a, .ref b] 2)) (s₁.setTop (mkF m 0 #[.val (.ref a), .val (.ref b)] [])) := entry rfl
  have c2 : Steps p.tables e below (s₁.setTop (entryFrame m #[.ref a, .ref b] 2)) (s₁.setTop (mkF m 6 #[.val (.ref a), .val (.ref b)] [.null, .int (Int32.ofNat A.slots.size), .int 0, .ref b, .ref a])) := c1.trans (by
    refine XS.aloadN X0.here hexec rfl (hb hbytes d0) rfl rfl ?_
    refine XS.aloadN X0.here hexec rfl (hb hbytes d1) rfl rfl ?_
    refine iconstV X0.here hexec rfl 0 (hb hbytes d2) (by decide) ?_
    refine XS.aloadN X0.here hexec rfl (hb hbytes d3) rfl rfl ?_
    refine X0.alen hexec (hA.1.mv X0.warmed.alike hh0) rfl rfl (hb hbytes d4) ?_
    refine XS.aconstNull X0.here hexec rfl (hb hbytes d5) ?_
    exact Steps.refl _)
  obtain ⟨v3, T3, X3, E3, g3⟩ := X0.callN hexec (New4.law l a D fV fC b A z 0 A.slots.size) rfl hown (wks W (initW "java/lang/String" 27 New4.yN)) (W New4.tab (by simp only [site, List.mem_cons, List.mem_append, true_or, or_true])) (W := 0) (Nat.le_of_ble_eq_true rfl) (Nat.le_of_ble_eq_true rfl) (Nat.le_refl _) (by show 0 + A.slots.size ≤ A.slots.size; omega) (g := (mkF m 6 #[.val (.ref a), .val (.ref b)] [.null, .int (Int32.ofNat A.slots.size), .int (Int32.ofNat 0), .ref b, .ref a])) rfl (by rw [hml]; rfl) c2 (argsL := [.ref b, .int (Int32.ofNat 0), .int (Int32.ofNat A.slots.size), .null]) (rest := []) rfl rfl (by show 2 * 0 + 0 ≤ _; decide) (hb hbytes d6) (⟨rfl, hB.mv X0.warmed.alike hh0, f1.al X0.warmed.alike, f2.al X0.warmed.alike, hA.mv X0.warmed.alike hh0, s1.there X0.warmed.alike hh0, hz, l0, by omega, l2, fun i hi => by rw [Nat.zero_add]; exact hp i hi⟩)
  have e0 := Got.mv _ s₁ s _ _ hh0.symm (Vm.Alike.refl _) rfl E3
  obtain rfl := e0.1
  have c4 : Steps p.tables e below (s₁.setTop (entryFrame m #[.ref a, .ref b] 2)) (T3.setTop (mkF m 9 #[.val (.ref a), .val (.ref b)] [])) := g3
  exact ⟨T3, none, _, _, _, X3, by simp, rfl, by omega, (fun _ => rfl), e0, fun fs hl => c4.trans (X3.returnOut hexec hret (hb hbytes d9) hl)⟩
theorem pays {l : Launch} {R : Room} {p : Program} {e : Env} {below : List Frame} {s : State} {sargs : Array Value} {len W : Nat} (a : Addr) (D : Cell) (fV fC : Field) (b : Addr) (A : Cell) (z : Int32) (htab : tab.before sargs s = true) (hfr : 4 ≤ R.frames) (hlo : W + 65 ≤ R.locals) :
    Back l R p e below s sargs yN len W (fun A₁ a₁ => A₁.cells + 1 ≤ R.cells ∧ A₁.slots + A.slots.size ≤ R.slots ∧ P a D fV fC b A z a₁ A₁.U) (fun A₁ _ v₁ B₁ => E a D fV fC A v₁ A₁.U B₁.U ∧ B₁.locs = A₁.locs ++ [⟨a, fC.slot⟩, ⟨a, fV.slot⟩] ∧ B₁.cells = A₁.cells + 1 ∧ B₁.slots = A₁.slots + A.slots.size) :=
  (law l a D fV fC b A z).pays htab hfr (by omega)
end New1
/-- the byte, read back as charAt reads it, is the char -/
theorem lo8_mask {x : Int32} (h0 : ¬ x < 0) (h1 : ¬ 255 < x) : lo8 x &&& 255 = x := by
  have t : ∀ k : Fin 256, lo8 (Int32.ofNat k.val) &&& 255 = Int32.ofNat k.val := by decide +kernel
  rw [Int32.lt_iff_toInt_lt] at h0 h1
  have e0 : (0 : Int32).toInt = 0 := rfl
  have e1 : (255 : Int32).toInt = 255 := rfl
  obtain ⟨k, hk⟩ : ∃ k : Nat, x.toInt = k := ⟨x.toInt.toNat, by omega⟩
  have hx : x = Int32.ofNat k := Int32.toInt_inj.mp (by rw [hk, Int32.toInt_ofNat_small (by omega)])
  rw [hx]
  exact t ⟨k, by omega⟩
end StrChars
namespace StrChars.Road
open Jvm Sem ClassFile Op Lib Jvm.Stand Jvm.Free Jvm.Free.XT
open Jvm.Lib.Cold (StaticIs)
abbrev ST : String := "java/lang/String"
/-- every table word that New1's law asks, flat -/
abbrev words : List Jvm.Cond := [.code New1.yN New1.yB 2 none, .initialized ST, .methodLink ST 27 New4.yN, .instanceMethod New4.yN,
  .code New4.yN New4.yB 6 none, .fieldLink ST 38 ST "COMPACT_STRINGS" "Z", .laysFinal ST ST "value" "[B", .fieldLink ST 9 ST "value" "[B", .laysFinal ST ST "coder" "B", .fieldLink ST 15 ST "coder" "B",
  .methodLink ST 1 Lib.objectInit, .instanceMethod Lib.objectInit, .code Lib.objectInit ⟨#[0xb1]⟩ 1 none, .methodLink ST 177 Cmp3.yN, .static Cmp3.yN, .methodLink ST 47 CodL.yN, .static CodL.yN,
  .code Cmp3.yN Cmp3.yB 6 (some (.array .byte)), .initialized U16, .arrayClass .byte, .methodLink U16 115 Cmp5.yN, .static Cmp5.yN, .code Cmp5.yN Cmp5.yB 7 (some .int), .code CodL.yN CodL.yB 2 (some .byte)]
theorem tab_of {a : Array Value} {s : State} (h : ∀ w ∈ words, w.before a s = true) : New1.tab.before a s = true := by
  have h5 : Cmp5.tab.before a s = true := unparts (wk h (.code Cmp5.yN Cmp5.yB 7 (some .int))) (wks h (.initialized Cmp5.yN.cls :: Cmp5.site))
  have hc : CodL.tab.before a s = true := unparts (wk h (.code CodL.yN CodL.yB 2 (some .byte))) (wks h (.initialized CodL.yN.cls :: CodL.site))
  have q5 : ∀ w ∈ Cmp5.tab :: words, w.before a s = true := fun w hw => (List.mem_cons.mp hw).elim (fun e => e ▸ h5) (h w)
  have h3 : Cmp3.tab.before a s = true := unparts (wk q5 (.code Cmp3.yN Cmp3.yB 6 (some (.array .byte)))) (wks q5 (.initialized Cmp3.yN.cls :: Cmp3.site))
  have q3 : ∀ w ∈ Cmp3.tab :: CodL.tab :: words, w.before a s = true := fun w hw => (List.mem_cons.mp hw).elim (fun e => e ▸ h3) fun hw => (List.mem_cons.mp hw).elim (fun e => e ▸ hc) (h w)
  have h4 : New4.tab.before a s = true := unparts (wk q3 (.code New4.yN New4.yB 6 none)) (wks q3 (.initialized New4.yN.cls :: New4.site))
  have q4 : ∀ w ∈ New4.tab :: words, w.before a s = true := fun w hw => (List.mem_cons.mp hw).elim (fun e => e ▸ h4) (h w)
  exact unparts (wk q4 (.code New1.yN New1.yB 2 none)) (wks q4 (.initialized New1.yN.cls :: New1.site))
/-- the words ride from the start Z to the walk's own state -/
theorem moved {Z s : State} {a0 args : Array Value} (hZ : Z.Warmed39 s.vm) (hw : ∀ d ∈ words, d.before a0 Z = true) : ∀ d ∈ words, d.before args s = true := fun d hd => by
  have q := hw d hd
  have t : ∀ d ∈ words, d = .arrayClass .byte ∨ (d.onTables && d.keepsFace) = true := by decide +kernel
  rcases t d hd with rfl | t
  · exact RoadKit.mvA hZ q
  · exact RoadKit.mv hZ q t
/-- WHAT COMES BACK, over the tables of the start Z: h the heap at the call, h' behind it -/
def Q (Z : State) (x : Addr) (A : Cell) (h : Heap) (v : Option Value) (h' : Heap) (L : List Loc) : Prop := v = none ∧ (∀ y ∈ L, y.base = x) ∧ RoadKit.Keep h h' [x] ∧ h'.size = h.size + 1 ∧ RoadKit.Exa Z h' x ST ∧ RoadKit.Fld Z h' x ST "value" "[B" (.ref h.size) ∧ RoadKit.Fld Z h' x ST "coder" "B" (.int 0) ∧
  (∃ V : Cell, RoadKit.Arr Z h' h.size V .byte ∧ V.vm = .none ∧ Z.vm.findClass "[B" = some V.cls ∧ V.slots.size = A.slots.size ∧ ∀ j, j < A.slots.size → V.slots[j]? = some (.int (lo8 (cv A j)))) ∧
  ∀ (O n d : String) (w : Value), RoadKit.Fld Z h x O n d w → RoadKit.slotOf Z O n d ≠ RoadKit.slotOf Z ST "value" "[B" → RoadKit.slotOf Z O n d ≠ RoadKit.slotOf Z ST "coder" "B" → RoadKit.Fld Z h' x O n d w
/-- **new String(chars) AT A CALL, IN THE ROAD'S FORM**: for specialBack behind newO: x the fresh String, b the char[] with the cell A -/
theorem back {p : Program} {l : Launch} {e : Env} {R : Room} {s : State} {args : Array Value} {below : List Frame} {len W : Nat} {Z : State} {a0 : Array Value} {h : Heap} (hZ : Z.Warmed39 s.vm) (hw : ∀ d ∈ words, d.before a0 Z = true) {kI : Nat} (wi : (Jvm.Cond.instantiable ST kI).before a0 Z = true)
    {x b : Addr} {A : Cell} {z : Int32} {v0 c0 : Value} (E : RoadKit.Exa Z h x ST) (V : RoadKit.Fld Z h x ST "value" "[B" v0) (C : RoadKit.Fld Z h x ST "coder" "B" c0) (K : RoadKit.Arr Z h b A .char) (hty : Typed .char A) (S : RoadKit.Sta Z h ST "COMPACT_STRINGS" "Z" (.int z)) (hz : ¬ z = 0)
    (l0 : 0 < A.slots.size) (l2 : A.slots.size ≤ 536870912) (hp : ∀ i, i < A.slots.size → ¬ 255 < cv A i) (hfr : 4 ≤ R.frames) (hlo : W + 65 ≤ R.locals) :
    Back l R p e below s args New1.yN len W (fun P a => a = #[.ref x, .ref b] ∧ P.U.heap = h ∧ P.cells + 1 ≤ R.cells ∧ P.slots + A.slots.size ≤ R.slots)
      (fun P _ v B => ∃ L, Q Z x A h v B.U.heap L ∧ B.locs = P.locs ++ L ∧ B.cells = P.cells + 1 ∧ B.slots = P.slots + A.slots.size) := by
  intro m meth c P g ig mk a X hg hsize hdg hW hn hp'
  obtain ⟨rfl, rfl, r1, r2⟩ := hp'
  have al : Z.vm.Alike P.U.vm := hZ.alike.trans X.warmed.alike
  obtain ⟨D, cfV, kV, iV, fV, hD, gV, stV, knV, obV, asV, slV⟩ := id V
  obtain ⟨D', cfC, kC, iC, fC, hD', gC, stC, -, -, asC, slC⟩ := id C
  cases hD.symm.trans hD'
  obtain ⟨D2, kD, e1, e2, e3, e4, e5⟩ := id E
  cases hD.symm.trans e1
  obtain ⟨c2, k2, i1, i2, i3, -⟩ := Cond.instantiable_spec wi
  cases e2.symm.trans i1
  cases e3.symm.trans i2
  obtain ⟨kU, u1, u2⟩ := al.2.2 _ _ e3
  have hB : Blank ST x D P.U := ⟨hD, ⟨knV, fun q hq => by rw [hq] at obV; cases obV⟩, by rw [al.findClass]; exact e2, kU, u1, by rw [u2]; exact i3, by rw [u2]; exact e5 i3⟩
  have F1 : Found ST "value" "[B" fV P.U := ⟨SBG.found_only al ⟨cfV, kV, iV, gV⟩, stV⟩
  have F2 : Found ST "coder" "B" fC P.U := ⟨SBG.found_only al ⟨cfC, kC, iC, gC⟩, stC⟩
  have hA : Ch b A P.U := ⟨⟨K.1, State.isArrayOf_alike al K.2.1, K.2.2, by omega⟩, hty⟩
  have hS : StaticIs P.U ST "COMPACT_STRINGS" "Z" (.int z) := by
    obtain ⟨cfS, iS, kS, fS, st, cS, t1, t2, t3, t4, t5, t6, t7⟩ := S
    exact StaticIs.there (s := { Z with heap := P.U.heap }) ⟨cfS, iS, kS, fS, st, cS, t1, t2, t3, t4, t5, (fun q => by rw [q] at t6; cases t6), t7⟩ al rfl
  obtain ⟨v, B, X', ⟨⟨hv, E', V', q1, q2, q3, q4, q5, q6, q7, q8, q9, q10, q11⟩, hl, hc, hs⟩, st⟩ := New1.pays x D fV fC b A z (tab_of (moved hZ hw)) hfr hlo m meth c P g ig mk _ X hg hsize hdg hW hn ⟨r1, r2, rfl, hB, F1, F2, hA, hS, hz, l0, l2, hp⟩
  have al' : Z.vm.Alike B.U.vm := hZ.alike.trans X'.warmed.alike
  have hsz : E'.slots.size = D.slots.size := by
    obtain ⟨-, -, -, kB, w1, w2, w3⟩ := q1
    obtain ⟨kB', y1, y2⟩ := al'.2.2 _ _ e3
    rw [q2.2.1] at w1
    cases w1.symm.trans y1
    rw [w3, e5 i3, y2]
  refine ⟨v, B, X', ⟨_, ⟨hv, ?_, ⟨by omega, fun y cy hy hn' => q10 y cy (by simpa using hn') hy, fun y cy hy => ?_⟩, q11, ⟨E', _, q1.1, by rw [q2.2.1]; exact e2, by rw [q2.2.1]; exact e3, by rw [q2.1]; exact obV, fun _ => by rw [hsz]; exact e5 i3⟩,
    ⟨E', cfV, kV, iV, fV, q1.1, gV, stV, by rw [q2.1]; exact knV, by rw [q2.1]; exact obV, by rw [q2.2.1]; exact asV, q3⟩, ⟨E', cfC, kC, iC, fC, q1.1, gC, stC, by rw [q2.1]; exact knV, by rw [q2.1]; exact obV, by rw [q2.2.1]; exact asC, q4⟩,
    ⟨V', ⟨q5.1, State.isArrayOf_alike al'.symm q5.2.1, q5.2.2.1⟩, q6, by rw [← al'.findClass]; exact q7, q8, fun j hj => by have := q9 j hj; rwa [Nat.zero_add] at this⟩, fun O n d w F n1 n2 => ?_⟩, hl, hc, hs⟩, st⟩
  · intro y hy
    simp only [List.mem_cons, List.not_mem_nil, or_false] at hy
    rcases hy with rfl | rfl <;> rfl
  · by_cases q : y = x
    · subst q
      cases hD.symm.trans hy
      exact ⟨E', q1.1, q2.2.1, q2.1, hsz⟩
    · exact ⟨cy, q10 y cy q hy, rfl, rfl, rfl⟩
  · obtain ⟨D3, cf, k, i, f, g1, g2, g3, g4, g5, g6, g7⟩ := F
    cases hD.symm.trans g1
    simp only [RoadKit.slotOf, g2, gV, gC, Option.map_some, Option.getD_some] at n1 n2
    exact ⟨E', cf, k, i, f, q1.1, g2, g3, by rw [q2.1]; exact g4, by rw [q2.1]; exact g5, by rw [q2.2.1]; exact g6, by rw [q2.2.2 f.slot (by simp [n1, n2])]; exact g7⟩
end StrChars.Road
namespace StrChars.Road
open Jvm Sem ClassFile Op Lib Jvm.Stand Jvm.Free Jvm.Free.XT
/-- WHAT COMES BACK, the byte[] as a list of values -/
def QA (Z : State) (x : Addr) (zn : Int32) (cs : List Int32) (h : Heap) (v : Option Value) (h' : Heap) (L : List Loc) : Prop := v = none ∧ (∀ y ∈ L, y.base = x) ∧ RoadKit.Keep h h' [x] ∧ h'.size = h.size + 1 ∧ RoadKit.Exa Z h' x ST ∧ RoadKit.Fld Z h' x ST "value" "[B" (.ref h.size) ∧ RoadKit.Fld Z h' x ST "coder" "B" (.int 0) ∧
  (∃ kb, Z.vm.findClass "[B" = some kb ∧ RoadKit.Arv Z h' h.size kb .byte zn (cs.map fun c => .int (lo8 c)) (.int 0)) ∧
  ∀ (O n d : String) (w : Value), RoadKit.Fld Z h x O n d w → RoadKit.slotOf Z O n d ≠ RoadKit.slotOf Z ST "value" "[B" → RoadKit.slotOf Z O n d ≠ RoadKit.slotOf Z ST "coder" "B" → RoadKit.Fld Z h' x O n d w
/-- **new String(chars) AT A CALL, THE ARRAYS AS LISTS**: the char[] at b holds cs, not empty, no char above 255 -/
theorem backArv {p : Program} {l : Launch} {e : Env} {R : Room} {s : State} {args : Array Value} {below : List Frame} {len W : Nat} {Z : State} {a0 : Array Value} {h : Heap} (hZ : Z.Warmed39 s.vm) (hw : ∀ d ∈ words, d.before a0 Z = true) {kI : Nat} (wi : (Jvm.Cond.instantiable ST kI).before a0 Z = true)
    {x b : Addr} {k : ClassId} {zn z : Int32} {cs : List Int32} {dv v0 c0 : Value} (E : RoadKit.Exa Z h x ST) (V : RoadKit.Fld Z h x ST "value" "[B" v0) (C : RoadKit.Fld Z h x ST "coder" "B" c0) (K : RoadKit.Arv Z h b k .char zn (cs.map Value.int) dv) (S : RoadKit.Sta Z h ST "COMPACT_STRINGS" "Z" (.int z)) (hz : ¬ z = 0)
    (hlen : zn.toNatClampNeg = cs.length) (h0 : 0 < cs.length) (hbig : cs.length ≤ 536870912) (hall : ∀ c ∈ cs, ¬ 255 < c) (hfr : 4 ≤ R.frames) (hlo : W + 65 ≤ R.locals) :
    Back l R p e below s args New1.yN len W (fun P a => a = #[.ref x, .ref b] ∧ P.U.heap = h ∧ P.cells + 1 ≤ R.cells ∧ P.slots + cs.length ≤ R.slots)
      (fun P _ v B => ∃ L, QA Z x zn cs h v B.U.heap L ∧ B.locs = P.locs ++ L ∧ B.cells = P.cells + 1 ∧ B.slots = P.slots + cs.length) := by
  obtain ⟨A, K1, K2, K3, K4, K5, K6⟩ := K
  have e : A.slots.size = cs.length := K3.trans hlen
  have hat : ∀ (i : Nat) (hi : i < cs.length), A.slots[i]? = some (.int cs[i]) := fun i hi => by rw [K5 i (by omega)]; simp [List.getD_eq_getElem?_getD, hi]
  have hcv : ∀ (i : Nat) (hi : i < cs.length), cv A i = cs[i] := fun i hi => by unfold cv; rw [hat i hi]
  have hty : Typed .char A := fun i v hv => by
    have hi : i < A.slots.size := (Array.getElem?_eq_some_iff.mp hv).1
    have q := K5 i hi
    rw [hv] at q
    rw [Option.some.inj q]
    exact K6 i hi
  refine Back.mono (back hZ hw wi E V C K1 hty S hz (by omega) (by omega) (fun i hi => by rw [hcv i (by omega)]; exact hall _ (List.getElem_mem _)) hfr hlo) (fun P a hp => ⟨hp.1, hp.2.1, hp.2.2.1, by rw [e]; exact hp.2.2.2⟩) (fun P a v B hp hq => ?_)
  obtain ⟨L, ⟨q1, q2, q3, q4, q5, q6, q7, ⟨V', v1, v2, v3, v4, v5⟩, q9⟩, hl, hc, hs⟩ := hq
  refine ⟨L, ⟨q1, q2, q3, q4, q5, q6, q7, ⟨V'.cls, v3, V', v1, rfl, by rw [v4, e, hlen], K4, fun i hi => ?_, fun i hi => ?_⟩, q9⟩, hl, hc, by rw [hs, e]⟩
  · have hi' : i < cs.length := by omega
    rw [v5 i (by omega), hcv i hi']; simp [List.getD_eq_getElem?_getD, hi']
  · have hi' : i < cs.length := by omega
    simp only [List.getD_eq_getElem?_getD, List.getElem?_map, List.getElem?_eq_getElem hi', Option.map_some, Option.getD_some]
    exact fits_lo8 _
end StrChars.Road
namespace StrChars.Road
open Jvm Sem ClassFile Op Lib Jvm.Stand Jvm.Free Jvm.Free.XT
/-- WHAT COMES BACK, in the writer's own shape -/
def QV (Z : State) (x : Addr) (N : Int32) (bs : List Int32) (h : Heap) (n0 : Nat) (v : Option Value) (h' : Heap) (L : List Loc) : Prop := v = none ∧ RoadKit.Fr n0 L ∧ RoadKit.Keep h h' [x] ∧ RoadKit.Exa Z h' x ST ∧ RoadKit.Fld Z h' x ST "coder" "B" (.int 0) ∧
  ∃ (t : Addr) (kb : ClassId), n0 ≤ t ∧ h.size ≤ t ∧ ¬ t = x ∧ RoadKit.Fld Z h' x ST "value" "[B" (.ref t) ∧ RoadKit.Arv Z h' t kb .byte N (bs.map Value.int) (.int 0)
/-- **new String(chars) AT A CALL, FOR THE WRITER**: a char[] of n known ints, each 0 to 255 -/
theorem backV {p : Program} {l : Launch} {e : Env} {R : Room} {s : State} {args : Array Value} {below : List Frame} {len W : Nat} {Z : State} {a0 : Array Value} {h : Heap} (hZ : Z.Warmed39 s.vm) (hw : ∀ d ∈ words, d.before a0 Z = true) {kI : Nat} (wi : (Jvm.Cond.instantiable ST kI).before a0 Z = true)
    {x b : Addr} {kC : ClassId} {cs bs : List Int32} {d v0 c0 : Value} {z N : Int32} {n n0 : Nat} (hx0 : n0 ≤ x) (hh0 : n0 ≤ h.size) (E : RoadKit.Exa Z h x ST) (V : RoadKit.Fld Z h x ST "value" "[B" v0) (C : RoadKit.Fld Z h x ST "coder" "B" c0) (K : RoadKit.Arv Z h b kC .char N (cs.map Value.int) d) (S : RoadKit.Sta Z h ST "COMPACT_STRINGS" "Z" (.int z)) (hz : ¬ z = 0)
    (hn : cs.length = n) (hN : N = Int32.ofNat n) (l0 : 0 < n) (l2 : n ≤ 4000) (hp : ∀ c ∈ cs, ¬ c < 0 ∧ ¬ (255 : Int32) < c) (hb : bs = cs.map (fun c => c.toInt8.toInt32)) (hfr : 4 ≤ R.frames) (hlo : W + 65 ≤ R.locals) :
    Back l R p e below s args (⟨"java/lang/String", "<init>", "([C)V"⟩ : MethodName) len W (fun P a => a = #[.ref x, .ref b] ∧ P.U.heap = h ∧ P.cells + 1 ≤ R.cells ∧ P.slots + n ≤ R.slots)
      (fun P _ v B => ∃ L, QV Z x N bs h n0 v B.U.heap L ∧ B.locs = P.locs ++ L ∧ B.cells = P.cells + 1 ∧ B.slots = P.slots + n) := by
  subst hn hN hb
  refine Back.mono (backArv hZ hw wi E V C K S hz (n32 (by omega)) l0 (by omega) (fun c hc => (hp c hc).2) hfr hlo) (fun P a hp => hp) (fun P a v B hp hq => ?_)
  obtain ⟨L, ⟨q1, q2, q3, q4, q5, q6, q7, ⟨kb, v1, v2⟩, q9⟩, hl, hc, hs⟩ := hq
  exact ⟨L, ⟨q1, fun y hy => by rw [q2 y hy]; exact hx0, q3, q5, q7, h.size, kb, hh0, Nat.le_refl _, Nat.ne_of_gt E.lt, q6, by rw [List.map_map]; exact v2⟩, hl, hc, hs⟩
end StrChars.Road
namespace StrChars
open Jvm Sem ClassFile Op Lib Jvm.Stand Jvm.Free.XT Jvm.Free.ALB Jvm.Free.JM Jvm.Free
open Jvm.Lib.Cold (StaticIs)
def hi8 (x : Int32) : Int32 := lo8 (x >>> ((8 : Int32) &&& 31))
/-- what StringUTF16.getChar makes of two bytes -/
def pairCh (u v : Int32) : Int32 := (((u &&& 255) <<< ((0 : Int32) &&& 31)) ||| ((v &&& 255) <<< ((8 : Int32) &&& 31))).toUInt32.toUInt16.toUInt32.toInt32
theorem lo8_and (x : Int32) : (lo8 x &&& 255).toBitVec.toNat = x.toBitVec.toNat % 256 := by
  have h : (lo8 x).toBitVec = (x.toBitVec.signExtend 8).signExtend 32 := by rw [lo8, Int8.toBitVec_toInt32, Int32.toBitVec_toInt8]
  rw [Int32.toBitVec_and, BitVec.toNat_and, h]
  have e : ((x.toBitVec.signExtend 8).signExtend 32).toNat % 256 = x.toBitVec.toNat % 256 := by
    rw [BitVec.toNat_signExtend]
    have hlt := x.toBitVec.isLt
    simp only [BitVec.toNat_setWidth, BitVec.toNat_signExtend]
    split <;> split <;> omega
  rw [← e]
  exact Nat.and_two_pow_sub_one_eq_mod _ 8
theorem pair_says {c : Int32} (h0 : ¬ c < 0) (h1 : ¬ 65535 < c) : pairCh (lo8 c) (hi8 c) = c := by
  rw [Int32.lt_iff_toInt_lt] at h0 h1
  have e0 : (0 : Int32).toInt = 0 := rfl
  have e1 : (65535 : Int32).toInt = 65535 := rfl
  have hc : c.toInt = c.toBitVec.toNat := by
    have := c.toBitVec.isLt
    have e : c.toInt = c.toBitVec.toInt := rfl
    rw [e] at h0 h1
    rw [e]
    rw [BitVec.toInt_eq_toNat_cond] at h0 h1 ⊢
    split at h0 <;> split <;> omega
  have hn : c.toBitVec.toNat < 65536 := by omega
  have a1 := lo8_and c
  have a2 : (hi8 c &&& 255).toBitVec.toNat = c.toBitVec.toNat / 256 := by
    rw [hi8, lo8_and]
    have e : ((8 : Int32) &&& 31) = 8 := by decide
    rw [e, Int32.toBitVec_shiftRight]
    have e2 : ((8 : Int32).toBitVec.smod 32) = 8#32 := by decide
    rw [e2, BitVec.sshiftRight_eq', BitVec.toNat_sshiftRight_of_msb_false (by rw [BitVec.msb_eq_false_iff_two_mul_lt]; omega)]
    show c.toBitVec.toNat >>> 8 % 256 = _
    rw [Nat.shiftRight_eq_div_pow]
    omega
  unfold pairCh
  apply Int32.toBitVec_inj.mp
  apply BitVec.eq_of_toNat_eq
  have f0 : ((0 : Int32) &&& 31) = 0 := by decide
  have f8 : ((8 : Int32) &&& 31) = 8 := by decide
  rw [f0, f8]
  have g : (((lo8 c &&& 255) <<< (0 : Int32)) ||| ((hi8 c &&& 255) <<< (8 : Int32))).toBitVec.toNat = c.toBitVec.toNat := by
    rw [Int32.toBitVec_or, Int32.toBitVec_shiftLeft, Int32.toBitVec_shiftLeft]
    have s0 : ((0 : Int32).toBitVec.smod 32) = 0#32 := by decide
    have s8 : ((8 : Int32).toBitVec.smod 32) = 8#32 := by decide
    rw [s0, s8, BitVec.toNat_or]
    simp only [BitVec.shiftLeft_eq', BitVec.toNat_shiftLeft, a1, a2]
    show (c.toBitVec.toNat % 256) <<< 0 % 2 ^ 32 ||| (c.toBitVec.toNat / 256) <<< 8 % 2 ^ 32 = _
    rw [Nat.shiftLeft_zero, Nat.mod_eq_of_lt (show c.toBitVec.toNat % 256 < 2 ^ 32 by omega), Nat.mod_eq_of_lt (show (c.toBitVec.toNat / 256) <<< 8 < 2 ^ 32 by rw [Nat.shiftLeft_eq]; omega), Nat.or_comm, ← Nat.shiftLeft_add_eq_or_of_lt (by omega), Nat.shiftLeft_eq]
    omega
  show BitVec.toNat (((((lo8 c &&& 255) <<< (0 : Int32)) ||| ((hi8 c &&& 255) <<< (8 : Int32))).toBitVec.setWidth 16).setWidth 32) = _
  rw [BitVec.toNat_setWidth, BitVec.toNat_setWidth, g]
  omega
end StrChars
namespace StrChars
open Jvm Sem ClassFile Op Lib Jvm.Stand Jvm.Free.XT Jvm.Free.ALB Jvm.Free.JM Jvm.Free
open Jvm.Lib.Cold (StaticIs)
/-- charAt's cast of a byte read back -/
def chr8 (u : Int32) : Int32 := (u &&& 255).toUInt32.toUInt16.toUInt32.toInt32
theorem chr8_lo8 {c : Int32} (h0 : ¬ c < 0) (h1 : ¬ 255 < c) : chr8 (lo8 c) = c := by
  have t : ∀ k : Fin 256, (Int32.ofNat k.val).toUInt32.toUInt16.toUInt32.toInt32 = Int32.ofNat k.val := by decide +kernel
  unfold chr8
  rw [lo8_mask h0 h1]
  rw [Int32.lt_iff_toInt_lt] at h0 h1
  have e0 : (0 : Int32).toInt = 0 := rfl
  have e1 : (255 : Int32).toInt = 255 := rfl
  obtain ⟨k, hk⟩ : ∃ k : Nat, c.toInt = k := ⟨c.toInt.toNat, by omega⟩
  have hx : c = Int32.ofNat k := Int32.toInt_inj.mp (by rw [hk, Int32.toInt_ofNat_small (by omega)])
  rw [hx]
  exact t ⟨k, by omega⟩
theorem narrow_ch {c : Int32} (h0 : ¬ c < 0) (h1 : ¬ 65535 < c) : narrow .char (.int c) = .int c := by
  have q : narrow .char (.int (pairCh (lo8 c) (hi8 c))) = .int (pairCh (lo8 c) (hi8 c)) := narrow_c _
  rwa [pair_says h0 h1] at q
/-- the array's cell V codes the n chars f 0 .. f (n - 1) by the coder cd, as the JDK does: coder 1 just where some char is above 255 -/
def Cod (cd : Int32) (n : Nat) (f : Nat → Int32) (V : Cell) : Prop := (cd = 0 ∧ V.slots.size = n ∧ ∀ j, j < n → V.slots[j]? = some (.int (lo8 (f j))) ∧ ¬ 255 < f j) ∨ (cd = 1 ∧ V.slots.size = 2 * n ∧ (∀ j, j < n → V.slots[2 * j]? = some (.int (lo8 (f j))) ∧ V.slots[2 * j + 1]? = some (.int (hi8 (f j)))) ∧ ∃ j, j < n ∧ 255 < f j)
theorem Cod.cd {cd : Int32} {n : Nat} {f : Nat → Int32} {V : Cell} (h : Cod cd n f V) : cd = 0 ∨ cd = 1 := h.imp (fun q => q.1) fun q => q.1
/-- **x is a String of the n chars f 0 .. f (n - 1)**, Latin-1 or UTF-16; its array at t has the cell V -/
def Txt (x t : Addr) (V : Cell) (cd : Int32) (n : Nat) (f : Nat → Int32) (U : State) : Prop := Exact "java/lang/String" x U ∧ Has x "java/lang/String" "value" "[B" (.ref t) U ∧ Has x "java/lang/String" "coder" "B" (.int cd) U ∧ XT.Arr .byte t V U ∧ Cod cd n f V ∧ ∀ j, j < n → ¬ f j < 0 ∧ ¬ 65535 < f j
theorem Txt.mv {x t : Addr} {V : Cell} {cd : Int32} {n : Nat} {f : Nat → Int32} {U U' : State} (h : Txt x t V cd n f U) (hal : U.vm.Alike U'.vm) (hh : U'.heap = U.heap) : Txt x t V cd n f U' := ⟨h.1.mv hal hh, h.2.1.mv hal hh, h.2.2.1.mv hal hh, h.2.2.2.1.mv hal hh, h.2.2.2.2⟩
namespace IsL
def yN : MethodName := ⟨"java/lang/String", "isLatin1", "()Z"⟩
abbrev yB : ByteArray := jdk_42_method_154_code
theorem d0 : decode yB 0 = .ok (.getstatic 38, 3) := by decide +kernel
theorem d3 : decode yB 3 = .ok (.ifCond (.eq) 14, 3) := by decide +kernel
theorem d6 : decode yB 6 = .ok (.aload_n 0, 1) := by decide +kernel
theorem d7 : decode yB 7 = .ok (.getfield 15, 3) := by decide +kernel
theorem d10 : decode yB 10 = .ok (.ifCond (.ne) 7, 3) := by decide +kernel
theorem d13 : decode yB 13 = .ok (.iconst 1, 1) := by decide +kernel
theorem d14 : decode yB 14 = .ok (.goto 4, 3) := by decide +kernel
theorem d17 : decode yB 17 = .ok (.iconst 0, 1) := by decide +kernel
theorem d18 : decode yB 18 = .ok (.ireturn, 1) := by decide +kernel
def site : List Cond := [.fieldLink "java/lang/String" 38 "java/lang/String" "COMPACT_STRINGS" "Z", .fieldLink "java/lang/String" 15 "java/lang/String" "coder" "B"]
def tab : Cond := tabOf yN yB 1 (some .boolean) site
def P (x : Addr) (cd z : Int32) (args : Array Value) (s : State) : Prop := args = #[.ref x] ∧ Has x "java/lang/String" "coder" "B" (.int cd) s ∧ (cd = 0 ∨ cd = 1) ∧ StaticIs s "java/lang/String" "COMPACT_STRINGS" "Z" (.int z) ∧ ¬ z = 0
def E (cd : Int32) (r : Option Value) (s u : State) : Prop := XT.PureE (some (.int (1 - cd))) r s u
theorem law (l : Launch) (x : Addr) (cd z : Int32) : Law l yN 1 0 0 0 yB 1 (some .boolean) site (P x cd z) (E cd) [] 0 0 := by
  refine Law.of_walk (plainFor_of_name (by decide +kernel)) (by decide +kernel) (by decide +kernel) (by decide) (fun _ _ h => by rw [h.1]; rfl) (fun _ U U' hal hh h => ⟨h.1, h.2.1.mv hal hh, h.2.2.1, h.2.2.2.1.there hal hh, h.2.2.2.2⟩) (fun r U U' V V' h1 hal h2 h => XT.PureE.mv r U U' V V' h1 hal h2 h) ?_
  intro p e s m args below meth c s₁ X0 hexec hbytes hml hret hlk hnm hown hh0 W hP
  obtain ⟨rfl, hx, hc, s1, hz⟩ := hP
  have c1 : Steps p.tables e below (s₁.setTop (entryFrame m #[.ref x] 1)) (s₁.setTop (mkF m 0 #[.val (.ref x)] [])) := entry rfl
  obtain ⟨T2, X2, q2, st2⟩ := X0.sget hexec hown (wk W (.fieldLink "java/lang/String" 38 "java/lang/String" "COMPACT_STRINGS" "Z")) s1 (fun _ _ h => by rw [hh0]; exact h) (g := (mkF m 0 #[.val (.ref x)] [])) rfl (hb hbytes d0)
  have hh2 := q2.trans hh0
  have c3 : Steps p.tables e below (s₁.setTop (entryFrame m #[.ref x] 1)) (T2.setTop (mkF m 7 #[.val (.ref x)] [.ref x])) := (c1.trans (st2 _ (Steps.refl _))).trans (by
    refine XS.ifNo X2.here hexec rfl (hb hbytes d3) rfl (i0_eq_f hz) ?_
    refine XS.aloadN X2.here hexec rfl (hb hbytes d6) rfl rfl ?_
    exact Steps.refl _)
  obtain ⟨T4, X4, q4, st4⟩ := X2.hget hexec hown (wk W (.fieldLink "java/lang/String" 15 "java/lang/String" "coder" "B")) (hx.mv X2.warmed.alike hh2) (g := (mkF m 7 #[.val (.ref x)] [.ref x])) rfl (rest := []) rfl (hb hbytes d7)
  have c5 : Steps p.tables e below (s₁.setTop (entryFrame m #[.ref x] 1)) (T4.setTop (mkF m 10 #[.val (.ref x)] [.int cd])) := c3.trans (st4 _ (Steps.refl _))
  have c6 : Steps p.tables e below (s₁.setTop (entryFrame m #[.ref x] 1)) (T4.setTop (mkF m 18 #[.val (.ref x)] [.int (1 - cd)])) := by
    rcases hc with rfl | rfl
    · exact c5.trans (by
        refine XS.ifNo X4.here hexec rfl (hb hbytes d10) rfl (i0_ne_f rfl) ?_
        refine iconstV X4.here hexec rfl 1 (hb hbytes d13) (by decide) ?_
        refine XS.goto X4.here hexec rfl (pc0 := 14) rfl (hb hbytes d14) (by decide) rfl ?_
        exact Steps.refl _)
    · exact c5.trans (by
        refine XS.ifYes X4.here hexec rfl (pc0 := 10) rfl (hb hbytes d10) rfl (i0_ne_t (by decide)) (by decide) rfl ?_
        refine iconstV X4.here hexec rfl 0 (hb hbytes d17) (by decide) ?_
        exact Steps.refl _)
  exact ⟨T4, some (.int (1 - cd)), _, _, _, X4, rfl, rfl, rfl, (fun h => by cases h), ⟨rfl, q4.trans hh2⟩, fun fs hl => c6.trans (X4.ireturnOut hexec hret (by rcases hc with rfl | rfl <;> rfl) (Or.inr (Or.inl rfl)) (hb hbytes d18) hl)⟩
end IsL
namespace LChA
def yN : MethodName := ⟨"java/lang/StringLatin1", "charAt", "([BI)C"⟩
abbrev yB : ByteArray := jdk_43_method_2_code
theorem d0 : decode yB 0 = .ok (.iload_n 1, 1) := by decide +kernel
theorem d1 : decode yB 1 = .ok (.aload_n 0, 1) := by decide +kernel
theorem d2 : decode yB 2 = .ok (.arraylength, 1) := by decide +kernel
theorem d3 : decode yB 3 = .ok (.invokestatic 9, 3) := by decide +kernel
theorem d6 : decode yB 6 = .ok (.aload_n 0, 1) := by decide +kernel
theorem d7 : decode yB 7 = .ok (.iload_n 1, 1) := by decide +kernel
theorem d8 : decode yB 8 = .ok (.baload, 1) := by decide +kernel
theorem d9 : decode yB 9 = .ok (.sipush 255, 3) := by decide +kernel
theorem d12 : decode yB 12 = .ok (.iand, 1) := by decide +kernel
theorem d13 : decode yB 13 = .ok (.i2c, 1) := by decide +kernel
theorem d14 : decode yB 14 = .ok (.ireturn, 1) := by decide +kernel
def site : List Cond := [JO.Str_checkIndex.tab] ++ staticW "java/lang/StringLatin1" 9 JO.Str_checkIndex.yN
def tab : Cond := tabOf yN yB 2 (some .char) site
def P (t : Addr) (V : Cell) (i : Nat) (u : Int32) (fm : Value) (args : Array Value) (s : State) : Prop := args = #[.ref t, .int (Int32.ofNat i)] ∧ XT.Arr .byte t V s ∧ V.slots[i]? = some (.int u) ∧ (StaticIs s "jdk/internal/util/Preconditions" "SIOOBE_FORMATTER" "Ljava/util/function/BiFunction;" fm ∧ fm.isRef = true)
def E (u : Int32) (r : Option Value) (s w : State) : Prop := XT.PureE (some (.int (chr8 u))) r s w
theorem law (l : Launch) (t : Addr) (V : Cell) (i : Nat) (u : Int32) (fm : Value) : Law l yN 2 2 2 27 yB 2 (some .char) site (P t V i u fm) (E u) [] 0 0 := by
  refine Law.of_walk (plainFor_of_name (by decide +kernel)) (by decide +kernel) (by decide +kernel) (by decide) (fun _ _ h => by rw [h.1]; rfl) (fun _ U U' hal hh h => ⟨h.1, h.2.1.mv hal hh, h.2.2.1, h.2.2.2.1.there hal hh, h.2.2.2.2⟩) (fun r U U' V V' h1 hal h2 h => XT.PureE.mv r U U' V V' h1 hal h2 h) ?_
  intro p e s m args below meth c s₁ X0 hexec hbytes hml hret hlk hnm hown hh0 W hP
  obtain ⟨rfl, hV, hu, s1, rf⟩ := hP
  have v31 := hV.2.2.2
  have hi : i < V.slots.size := (Array.getElem?_eq_some_iff.mp hu).1
  have c1 : Steps p.tables e below (s₁.setTop (entryFrame m #[.ref t, .int (Int32.ofNat i)] 2)) (s₁.setTop (mkF m 0 #[.val (.ref t), .val (.int (Int32.ofNat i))] [])) := entry rfl
  have c2 : Steps p.tables e below (s₁.setTop (entryFrame m #[.ref t, .int (Int32.ofNat i)] 2)) (s₁.setTop (mkF m 3 #[.val (.ref t), .val (.int (Int32.ofNat i))] [.int (Int32.ofNat V.slots.size), .int (Int32.ofNat i)])) := c1.trans (by
    refine XS.iloadN X0.here hexec rfl (hb hbytes d0) rfl ?_
    refine XS.aloadN X0.here hexec rfl (hb hbytes d1) rfl rfl ?_
    refine X0.alen hexec (hV.mv X0.warmed.alike hh0) rfl rfl (hb hbytes d2) ?_
    exact Steps.refl _)
  obtain ⟨v3, T3, X3, E3, g3⟩ := X0.callS hexec (JO.Str_checkIndex.law l (Int32.ofNat i) (Int32.ofNat V.slots.size) fm) hown (wks W (staticW "java/lang/StringLatin1" 9 JO.Str_checkIndex.yN)) (wk W JO.Str_checkIndex.tab) (W := 0) (Nat.le_of_ble_eq_true rfl) (Nat.le_of_ble_eq_true rfl) (Nat.le_refl _) (Nat.le_refl _) (g := (mkF m 3 #[.val (.ref t), .val (.int (Int32.ofNat i))] [.int (Int32.ofNat V.slots.size), .int (Int32.ofNat i)])) rfl (by rw [hml]; rfl) c2 (argsL := [.int (Int32.ofNat i), .int (Int32.ofNat V.slots.size)]) (rest := []) rfl rfl (by show 2 * 0 + 0 ≤ _; decide) (hb hbytes d3) (⟨rfl, rf, s1.there X0.warmed.alike hh0, Int32.ofNat_not_neg (by omega), lt32 v31 hi⟩)
  obtain ⟨rfl, q3⟩ := E3
  have hh3 := q3.trans hh0
  have c4 : Steps p.tables e below (s₁.setTop (entryFrame m #[.ref t, .int (Int32.ofNat i)] 2)) (T3.setTop (mkF m 14 #[.val (.ref t), .val (.int (Int32.ofNat i))] [.int (chr8 u)])) := Steps.trans g3 (by
    refine XS.aloadN X3.here hexec rfl (hb hbytes d6) rfl rfl ?_
    refine XS.iloadN X3.here hexec rfl (hb hbytes d7) rfl ?_
    refine X3.aget hexec (hV.mv X3.warmed.alike hh3) rfl hu rfl rfl (hb hbytes d8) ?_
    refine sipushV X3.here hexec rfl 255 (hb hbytes d9) (by decide) ?_
    refine XS.iand X3.here hexec rfl (hb hbytes d12) rfl ?_
    refine i2c X3.here hexec rfl (hb hbytes d13) rfl ?_
    exact Steps.refl _)
  exact ⟨T3, some (.int (chr8 u)), _, _, _, X3, rfl, rfl, rfl, (fun h => by cases h), ⟨rfl, hh3⟩, fun fs hl => c4.trans (X3.ireturnOut hexec hret (narrow_c _) (Or.inr (Or.inr (Or.inr (Or.inl rfl)))) (hb hbytes d14) hl)⟩
end LChA
end StrChars
namespace StrChars.Road
open Jvm Sem ClassFile Op Lib Jvm.Stand Jvm.Free Jvm.Free.XT
open Jvm.Lib.Cold (StaticIs)
theorem consq {a : Array Value} {s : State} {c : Jvm.Cond} {L : List Jvm.Cond} (h0 : c.before a s = true) (h : ∀ w ∈ L, w.before a s = true) : ∀ w ∈ c :: L, w.before a s = true := fun w hw => (List.mem_cons.mp hw).elim (fun e => e ▸ h0) (h w)
/-- the bytes of the chars cs, low before high -/
def wideBytes : List Int32 → List Value
  | [] => []
  | c :: cs => .int (lo8 c) :: .int (hi8 c) :: wideBytes cs
theorem wide_lo (d : Value) : ∀ (cs : List Int32) (j : Nat), j < cs.length → (wideBytes cs).getD (2 * j) d = .int (lo8 (cs.getD j 0))
  | [], j, h => absurd h (Nat.not_lt_zero j)
  | c :: cs, 0, _ => rfl
  | c :: cs, j + 1, h => by
    have q := wide_lo d cs j (by simpa using h)
    rw [show 2 * (j + 1) = 2 * j + 1 + 1 from by omega]
    simpa [wideBytes] using q
theorem wide_hi (d : Value) : ∀ (cs : List Int32) (j : Nat), j < cs.length → (wideBytes cs).getD (2 * j + 1) d = .int (hi8 (cs.getD j 0))
  | [], j, h => absurd h (Nat.not_lt_zero j)
  | c :: cs, 0, _ => rfl
  | c :: cs, j + 1, h => by
    have q := wide_hi d cs j (by simpa using h)
    rw [show 2 * (j + 1) + 1 = 2 * j + 1 + 1 + 1 from by omega]
    simpa [wideBytes] using q
theorem low_at (d : Value) (cs : List Int32) (j : Nat) (h : j < cs.length) : (cs.map fun c => Value.int (lo8 c)).getD j d = .int (lo8 (cs.getD j 0)) := by
  simp [List.getD_eq_getElem?_getD, h]
/-- an array of N2 bytes vs codes the chars cs by the coder cd -/
def CodA (cs : List Int32) (cd N2 : Int32) (vs : List Value) : Prop := (cd = 0 ∧ N2 = Int32.ofNat cs.length ∧ vs = (cs.map fun c => Value.int (lo8 c)) ∧ ∀ c ∈ cs, ¬ 255 < c) ∨ (cd = 1 ∧ N2 = Int32.ofNat (2 * cs.length) ∧ vs = wideBytes cs ∧ ∃ c ∈ cs, 255 < c)
theorem CodA.cod {cs : List Int32} {cd N2 : Int32} {vs : List Value} {V : Cell} (h : CodA cs cd N2 vs) (hn : 2 * cs.length < 2 ^ 31) (hs : V.slots.size = N2.toNatClampNeg) (hv : RoadKit.Has V vs (.int 0)) : Cod cd cs.length (fun j => cs.getD j 0) V := by
  rcases h with ⟨rfl, rfl, rfl, h⟩ | ⟨rfl, rfl, rfl, c, hc, hw⟩
  · rw [n32 (by omega)] at hs
    exact Or.inl ⟨rfl, hs, fun j hj => ⟨by rw [hv j (by omega), low_at _ _ _ hj], by
      have e : cs.getD j 0 = cs[j] := by simp [List.getD_eq_getElem?_getD, hj]
      show ¬ 255 < cs.getD j 0
      rw [e]; exact h _ (List.getElem_mem _)⟩⟩
  · rw [n32 (by omega)] at hs
    obtain ⟨j, hj, rfl⟩ := List.getElem_of_mem hc
    exact Or.inr ⟨rfl, hs, fun j hj => ⟨by rw [hv _ (by omega), wide_lo _ _ _ hj], by rw [hv _ (by omega), wide_hi _ _ _ hj]⟩, j, hj, by
      have e : cs.getD j 0 = cs[j] := by simp [List.getD_eq_getElem?_getD, hj]
      show 255 < cs.getD j 0
      rw [e]; exact hw⟩
/-- an object of exactly java/lang/String, its two fields found: as the laws ask it -/
theorem strObj {Z U : State} {a0 : Array Value} {kI : Nat} (wi : (Jvm.Cond.instantiable ST kI).before a0 Z = true) (al : Z.vm.Alike U.vm) {x : Addr} {v0 c0 : Value} (E : RoadKit.Exa Z U.heap x ST) (V : RoadKit.Fld Z U.heap x ST "value" "[B" v0) (C : RoadKit.Fld Z U.heap x ST "coder" "B" c0) :
    ∃ (D : Cell) (fV fC : Field), Blank ST x D U ∧ Found ST "value" "[B" fV U ∧ Found ST "coder" "B" fC U ∧ D.slots[fV.slot]? = some v0 ∧ D.slots[fC.slot]? = some c0 ∧ RoadKit.slotOf Z ST "value" "[B" = fV.slot ∧ RoadKit.slotOf Z ST "coder" "B" = fC.slot := by
  obtain ⟨D, cfV, kV, iV, fV, hD, gV, stV, knV, obV, asV, slV⟩ := V
  obtain ⟨D', cfC, kC, iC, fC, hD', gC, stC, -, -, asC, slC⟩ := C
  cases hD.symm.trans hD'
  obtain ⟨D2, kD, e1, e2, e3, e4, e5⟩ := E
  cases hD.symm.trans e1
  obtain ⟨c2, k2, i1, i2, i3, -⟩ := Cond.instantiable_spec wi
  cases e2.symm.trans i1
  cases e3.symm.trans i2
  obtain ⟨kU, u1, u2⟩ := al.2.2 _ _ e3
  exact ⟨D, fV, fC, ⟨hD, ⟨knV, fun q hq => by rw [hq] at obV; cases obV⟩, by rw [al.findClass]; exact e2, kU, u1, by rw [u2]; exact i3, by rw [u2]; exact e5 i3⟩, ⟨SBG.found_only al ⟨cfV, kV, iV, gV⟩, stV⟩, ⟨SBG.found_only al ⟨cfC, kC, iC, gC⟩, stC⟩, slV, slC, by simp [RoadKit.slotOf, gV], by simp [RoadKit.slotOf, gC]⟩
theorem sta_is {Z U : State} (al : Z.vm.Alike U.vm) {C n d : String} {v : Value} (S : RoadKit.Sta Z U.heap C n d v) : StaticIs U C n d v := by
  obtain ⟨cfS, iS, kS, fS, st, cS, t1, t2, t3, t4, t5, t6, t7⟩ := S
  exact StaticIs.there (s := { Z with heap := U.heap }) ⟨cfS, iS, kS, fS, st, cS, t1, t2, t3, t4, t5, (fun q => by rw [q] at t6; cases t6), t7⟩ al rfl
end StrChars.Road
namespace StrChars.Road
open Jvm Sem ClassFile Op Lib Jvm.Stand Jvm.Free Jvm.Free.XT
open Jvm.Lib.Cold (StaticIs)
/-- the road's facts of a String, as the laws ask it -/
theorem txt_of {Z U : State} {a0 : Array Value} {kI : Nat} (wi : (Jvm.Cond.instantiable ST kI).before a0 Z = true) (al : Z.vm.Alike U.vm) {x t : Addr} {kb : ClassId} {cs : List Int32} {cd N2 : Int32} {vs : List Value} (E : RoadKit.Exa Z U.heap x ST) (V : RoadKit.Fld Z U.heap x ST "value" "[B" (.ref t)) (C : RoadKit.Fld Z U.heap x ST "coder" "B" (.int cd)) (K : RoadKit.Arv Z U.heap t kb .byte N2 vs (.int 0)) (hc : CodA cs cd N2 vs) (hb : ∀ c ∈ cs, ¬ c < 0 ∧ ¬ (65535 : Int32) < c) (l2 : cs.length ≤ 4000) :
    ∃ A, Txt x t A cd cs.length (fun j => cs.getD j 0) U := by
  obtain ⟨A, K1, K2, K3, K4, K5, K6⟩ := K
  have hcod := hc.cod (by omega) K3 K5
  obtain ⟨D, fV, fC, hB, F1, F2, g1, g2, -, -⟩ := strObj wi al E V C
  exact ⟨A, ⟨_, hB.2.2.1, D, hB.1, rfl, by cases q : D.vm <;> first | rfl | exact absurd q (hB.2.1.2 _)⟩, Has.of hB F1 g1, Has.of hB F2 g2, ⟨K1.1, State.isArrayOf_alike al K1.2.1, K1.2.2, by rcases hcod with ⟨-, q, -⟩ | ⟨-, q, -⟩ <;> omega⟩, hcod, fun j hj => by
    have e : cs.getD j 0 = cs[j] := by simp [List.getD_eq_getElem?_getD, hj]
    show ¬ cs.getD j 0 < 0 ∧ ¬ 65535 < cs.getD j 0
    rw [e]; exact hb _ (List.getElem_mem _)⟩
end StrChars.Road
namespace StrChars
open Jvm Sem ClassFile Op Lib Jvm.Stand Jvm.Free.XT Jvm.Free.ALB Jvm.Free.JM Jvm.Free
open Jvm.Lib.Cold (StaticIs)
namespace ChN
def yN : MethodName := ⟨"java/lang/String", "charAt", "(I)C"⟩
abbrev yB : ByteArray := jdk_42_method_56_code
theorem d0 : decode yB 0 = .ok (.aload_n 0, 1) := by decide +kernel
theorem d1 : decode yB 1 = .ok (.invokevirtual 492, 3) := by decide +kernel
theorem d4 : decode yB 4 = .ok (.ifCond (.eq) 12, 3) := by decide +kernel
theorem d7 : decode yB 7 = .ok (.aload_n 0, 1) := by decide +kernel
theorem d8 : decode yB 8 = .ok (.getfield 9, 3) := by decide +kernel
theorem d11 : decode yB 11 = .ok (.iload_n 1, 1) := by decide +kernel
theorem d12 : decode yB 12 = .ok (.invokestatic 495, 3) := by decide +kernel
theorem d15 : decode yB 15 = .ok (.ireturn, 1) := by decide +kernel
def site : List Cond := [.fieldLink "java/lang/String" 9 "java/lang/String" "value" "[B", IsL.tab, LChA.tab] ++ virtW "java/lang/String" 492 "java/lang/String" IsL.yN IsL.yN ++ staticW "java/lang/String" 495 LChA.yN
def tab : Cond := tabOf yN yB 2 (some .char) site
def P (x t : Addr) (V : Cell) (n : Nat) (f : Nat → Int32) (z : Int32) (fm : Value) (i : Nat) (args : Array Value) (s : State) : Prop := args = #[.ref x, .int (Int32.ofNat i)] ∧ Txt x t V 0 n f s ∧ i < n ∧ StaticIs s "java/lang/String" "COMPACT_STRINGS" "Z" (.int z) ∧ ¬ z = 0 ∧ StaticIs s "jdk/internal/util/Preconditions" "SIOOBE_FORMATTER" "Ljava/util/function/BiFunction;" fm ∧ fm.isRef = true
def E (f : Nat → Int32) (i : Nat) (r : Option Value) (s u : State) : Prop := XT.PureE (some (.int (f i))) r s u
/-- charAt(i) of a Latin-1 String of n chars, i < n: f i -/
theorem law (l : Launch) (x t : Addr) (V : Cell) (n : Nat) (f : Nat → Int32) (z : Int32) (fm : Value) (i : Nat) : Law l yN 2 1 3 40 yB 2 (some .char) site (P x t V n f z fm i) (E f i) [] 0 0 := by
  refine Law.of_walk (plainFor_of_name (by decide +kernel)) (by decide +kernel) (by decide +kernel) (by decide) (fun _ _ h => by rw [h.1]; rfl) (fun _ U U' hal hh h => ⟨h.1, h.2.1.mv hal hh, h.2.2.1, h.2.2.2.1.there hal hh, h.2.2.2.2.1, h.2.2.2.2.2.1.there hal hh, h.2.2.2.2.2.2⟩) (fun r U U' V V' h1 hal h2 h => XT.PureE.mv r U U' V V' h1 hal h2 h) ?_
  intro p e s m args below meth c s₁ X0 hexec hbytes hml hret hlk hnm hown hh0 W hP
  obtain ⟨rfl, hx, hi, s1, hz, s3, rf⟩ := hP
  have v31 := hx.2.2.2.1.2.2.2
  have hr := hx.2.2.2.2.2 i hi
  have hx0 := hx.mv X0.warmed.alike hh0
  have c1 : Steps p.tables e below (s₁.setTop (entryFrame m #[.ref x, .int (Int32.ofNat i)] 2)) (s₁.setTop (mkF m 1 #[.val (.ref x), .val (.int (Int32.ofNat i))] [.ref x])) := Steps.trans (entry rfl) (by
    show Steps p.tables e below (s₁.setTop (mkF m 0 #[.val (.ref x), .val (.int (Int32.ofNat i))] [])) _
    refine XS.aloadN X0.here hexec rfl (hb hbytes d0) rfl rfl ?_
    exact Steps.refl _)
  obtain ⟨v2, T2, X2, E2, g2⟩ := X0.callV hexec (IsL.law l x 0 z) hown (wks W (virtW "java/lang/String" 492 "java/lang/String" IsL.yN IsL.yN)) rfl (by decide) (wk W IsL.tab) (W := 0) (Nat.le_of_ble_eq_true rfl) (Nat.le_of_ble_eq_true rfl) (Nat.le_refl _) (Nat.le_refl _) (hx0.1.fc X0.warmed.alike) hx0.1.is (g := (mkF m 1 #[.val (.ref x), .val (.int (Int32.ofNat i))] [.ref x])) rfl (by rw [hml]; rfl) c1 (argsL := []) (rest := []) rfl rfl (by show 2 * 0 + 0 ≤ _; decide) (hb hbytes d1) (⟨rfl, hx0.2.2.1, hx.2.2.2.2.1.cd, s1.there X0.warmed.alike hh0, hz⟩)
  obtain ⟨rfl, q2⟩ := E2
  have hh2 := q2.trans hh0
  have hx2 := hx.mv X2.warmed.alike hh2
  obtain ⟨-, k1, k2⟩ | ⟨k0, -⟩ := hx.2.2.2.2.1
  · have c3 : Steps p.tables e below (s₁.setTop (entryFrame m #[.ref x, .int (Int32.ofNat i)] 2)) (T2.setTop (mkF m 8 #[.val (.ref x), .val (.int (Int32.ofNat i))] [.ref x])) := Steps.trans g2 (by
      refine XS.ifNo X2.here hexec rfl (hb hbytes d4) rfl (i0_eq_f (by decide)) ?_
      refine XS.aloadN X2.here hexec rfl (hb hbytes d7) rfl rfl ?_
      exact Steps.refl _)
    obtain ⟨T4, X4, q4, st4⟩ := X2.hget hexec hown (wk W (.fieldLink "java/lang/String" 9 "java/lang/String" "value" "[B")) hx2.2.1 (g := (mkF m 8 #[.val (.ref x), .val (.int (Int32.ofNat i))] [.ref x])) rfl (rest := []) rfl (hb hbytes d8)
    have hh4 := q4.trans hh2
    have c5 : Steps p.tables e below (s₁.setTop (entryFrame m #[.ref x, .int (Int32.ofNat i)] 2)) (T4.setTop (mkF m 12 #[.val (.ref x), .val (.int (Int32.ofNat i))] [.int (Int32.ofNat i), .ref t])) := (c3.trans (st4 _ (Steps.refl _))).trans (by
      refine XS.iloadN X4.here hexec rfl (hb hbytes d11) rfl ?_
      exact Steps.refl _)
    obtain ⟨v6, T6, X6, E6, g6⟩ := X4.callS hexec (LChA.law l t V i (lo8 (f i)) fm) hown (wks W (staticW "java/lang/String" 495 LChA.yN)) (wk W LChA.tab) (W := 0) (Nat.le_of_ble_eq_true rfl) (Nat.le_of_ble_eq_true rfl) (Nat.le_refl _) (Nat.le_refl _) (g := (mkF m 12 #[.val (.ref x), .val (.int (Int32.ofNat i))] [.int (Int32.ofNat i), .ref t])) rfl (by rw [hml]; rfl) c5 (argsL := [.ref t, .int (Int32.ofNat i)]) (rest := []) rfl rfl (by show 2 * 0 + 0 ≤ _; decide) (hb hbytes d12) (⟨rfl, hx.2.2.2.1.mv X4.warmed.alike hh4, (k2 i hi).1, s3.there X4.warmed.alike hh4, rf⟩)
    obtain ⟨rfl, q6⟩ := E6
    rw [chr8_lo8 hr.1 (k2 i hi).2] at g6
    exact ⟨T6, some (.int (f i)), _, _, _, X6, rfl, rfl, rfl, (fun h => by cases h), ⟨rfl, q6.trans hh4⟩, fun fs hl => Steps.trans g6 (X6.ireturnOut hexec hret (narrow_ch hr.1 hr.2) (Or.inr (Or.inr (Or.inr (Or.inl rfl)))) (hb hbytes d15) hl)⟩
  · exact absurd k0 (by decide)
theorem pays {l : Launch} {R : Room} {p : Program} {e : Env} {below : List Frame} {s : State} {sargs : Array Value} {len W : Nat} (x t : Addr) (V : Cell) (n : Nat) (f : Nat → Int32) (z : Int32) (fm : Value) (i : Nat) (htab : tab.before sargs s = true) (hfr : 4 ≤ R.frames) (hlo : W + 53 ≤ R.locals) :
    Back l R p e below s sargs yN len W (fun A₁ a₁ => A₁.cells + 0 ≤ R.cells ∧ A₁.slots + 0 ≤ R.slots ∧ P x t V n f z fm i a₁ A₁.U) (fun A₁ _ v₁ B₁ => E f i v₁ A₁.U B₁.U ∧ B₁.locs = A₁.locs ++ [] ∧ B₁.cells = A₁.cells + 0 ∧ B₁.slots = A₁.slots + 0) :=
  (law l x t V n f z fm i).pays htab hfr (by omega)
end ChN
end StrChars
namespace StrChars.Road
open Jvm Sem ClassFile Op Lib Jvm.Stand Jvm.Free Jvm.Free.XT
open Jvm.Lib.Cold (StaticIs)
/-- the words of String.charAt(int), the Latin-1 road alone -/
abbrev wordsChN : List Jvm.Cond := [.code ChN.yN ChN.yB 2 (some .char), .initialized ST, .fieldLink ST 9 ST "value" "[B", .fieldLink ST 38 ST "COMPACT_STRINGS" "Z", .fieldLink ST 15 ST "coder" "B", .code IsL.yN IsL.yB 1 (some .boolean), .methodLink ST 492 IsL.yN, .declares IsL.yN, .selects ST IsL.yN IsL.yN, .instanceMethod IsL.yN,
  .methodLink ST 495 LChA.yN, .static LChA.yN, .code LChA.yN LChA.yB 2 (some .char), .initialized "java/lang/StringLatin1", .methodLink "java/lang/StringLatin1" 9 JO.Str_checkIndex.yN, .static JO.Str_checkIndex.yN, .code JO.Str_checkIndex.yN JO.Str_checkIndex.yB 2 none,
  .fieldLink ST 1053 "jdk/internal/util/Preconditions" "SIOOBE_FORMATTER" "Ljava/util/function/BiFunction;", .methodLink ST 1059 JC.PreCheck.yN, .static JC.PreCheck.yN, .code JC.PreCheck.yN JC.PreCheck.yB 3 (some .int), .initialized "jdk/internal/util/Preconditions"]
theorem tabChN_of {a : Array Value} {s : State} (h : ∀ w ∈ wordsChN, w.before a s = true) : ChN.tab.before a s = true := by
  have hp : JC.PreCheck.tab.before a s = true := unparts (wk h (.code JC.PreCheck.yN JC.PreCheck.yB 3 (some .int))) (wks h (.initialized JC.PreCheck.yN.cls :: JC.PreCheck.site))
  have qk := consq hp h
  have hk : JO.Str_checkIndex.tab.before a s = true := unparts (wk qk (.code JO.Str_checkIndex.yN JO.Str_checkIndex.yB 2 none)) (wks qk (.initialized JO.Str_checkIndex.yN.cls :: JO.Str_checkIndex.site))
  have ql := consq hk h
  have hl : LChA.tab.before a s = true := unparts (wk ql (.code LChA.yN LChA.yB 2 (some .char))) (wks ql (.initialized LChA.yN.cls :: LChA.site))
  have hi : IsL.tab.before a s = true := unparts (wk h (.code IsL.yN IsL.yB 1 (some .boolean))) (wks h (.initialized IsL.yN.cls :: IsL.site))
  have q := consq hi (consq hl h)
  exact unparts (wk q (.code ChN.yN ChN.yB 2 (some .char))) (wks q (.initialized ChN.yN.cls :: ChN.site))
theorem movedChN {Z s : State} {a0 args : Array Value} (hZ : Z.Warmed39 s.vm) (hw : ∀ d ∈ wordsChN, d.before a0 Z = true) : ∀ d ∈ wordsChN, d.before args s = true := fun d hd => by
  have t : ∀ d ∈ wordsChN, (d.onTables && d.keepsFace) = true := by decide +kernel
  exact RoadKit.mv hZ (hw d hd) (t d hd)
/-- **charAt(i) OF A LATIN-1 STRING**, i < n: the char -/
theorem chN {p : Program} {l : Launch} {e : Env} {R : Room} {s : State} {args : Array Value} {below : List Frame} {len W : Nat} {Z : State} {a0 : Array Value} {h : Heap} (hZ : Z.Warmed39 s.vm) (hw : ∀ d ∈ wordsChN, d.before a0 Z = true) {kI : Nat} (wi : (Jvm.Cond.instantiable ST kI).before a0 Z = true)
    {x t : Addr} {kb : ClassId} {cs : List Int32} {N2 z : Int32} {vs : List Value} {fm : Value} {i : Nat} {j : Int32} (E : RoadKit.Exa Z h x ST) (V : RoadKit.Fld Z h x ST "value" "[B" (.ref t)) (C : RoadKit.Fld Z h x ST "coder" "B" (.int 0)) (K : RoadKit.Arv Z h t kb .byte N2 vs (.int 0)) (hc : CodA cs 0 N2 vs) (hb : ∀ c ∈ cs, ¬ c < 0 ∧ ¬ (65535 : Int32) < c)
    (S : RoadKit.Sta Z h ST "COMPACT_STRINGS" "Z" (.int z)) (hz : ¬ z = 0) (F : RoadKit.Sta Z h "jdk/internal/util/Preconditions" "SIOOBE_FORMATTER" "Ljava/util/function/BiFunction;" fm) (rf : fm.isRef = true) (l2 : cs.length ≤ 4000) (hi : i < cs.length) (hj : j = Int32.ofNat i) (hfr : 4 ≤ R.frames) (hlo : W + 53 ≤ R.locals) :
    Back l R p e below s args (⟨"java/lang/String", "charAt", "(I)C"⟩ : MethodName) len W (fun P a => a = #[.ref x, .int j] ∧ P.U.heap = h ∧ P.cells + 0 ≤ R.cells ∧ P.slots + 0 ≤ R.slots)
      (fun P _ v B => ∃ L, (v = some (.int (cs.getD i 0)) ∧ L = [] ∧ B.U.heap = h) ∧ B.locs = P.locs ++ L ∧ B.cells = P.cells + 0 ∧ B.slots = P.slots + 0) := by
  subst hj
  intro m meth c P g ig mk a X hg hsize hdg hW hn hp'
  obtain ⟨rfl, rfl, r1, r2⟩ := hp'
  have al : Z.vm.Alike P.U.vm := hZ.alike.trans X.warmed.alike
  obtain ⟨A, hx⟩ := txt_of wi al E V C K hc hb l2
  obtain ⟨v, B, X', ⟨⟨hv, hh⟩, hl, hk, hs⟩, st⟩ := ChN.pays x t A cs.length (fun j => cs.getD j 0) z fm i (tabChN_of (movedChN hZ hw)) hfr hlo m meth c P g ig mk _ X hg hsize hdg hW hn ⟨r1, r2, rfl, hx, hi, sta_is al S, hz, sta_is al F, rf⟩
  exact ⟨v, B, X', ⟨[], ⟨hv, rfl, hh⟩, hl, hk, hs⟩, st⟩
/-- what backV says of its String, as the contracts of this text ask it: cs's low bytes, coder 0 -/
theorem codOf {cs : List Int32} {n : Nat} (hn : cs.length = n) (hb : ∀ c ∈ cs, ¬ 255 < c) : CodA cs 0 (Int32.ofNat n) ((cs.map lo8).map Value.int) := Or.inl ⟨rfl, by rw [hn], by simp [List.map_map, Function.comp_def], hb⟩
end StrChars.Road
end Jvm.Pilot.@@N@@
namespace Jvm.Pilot.@@N@@
open Jvm Jvm.ClassFile Sem Op Lib Jvm.Free Jvm.Stand Jvm.LawKit Jvm.RoadKit Bundle Jvm.Pilot.@@N@@.Jvm.D
theorem own_nb {v : Int32} (h : v = 0 ∨ v = 1) : narrow .boolean (.int v) = .int v := by rcases h with rfl | rfl <;> rfl
theorem own_i2c {x : Int32} (h0 : ¬ x < 0) (h1 : ¬ 65535 < x) : x.toUInt32.toUInt16.toUInt32.toInt32 = x := by
  have e0 : (0 : Int32).toInt = 0 := rfl
  have e1 : (65535 : Int32).toInt = 65535 := rfl
  rw [Int32.lt_iff_toInt_lt, e0] at h0
  rw [Int32.lt_iff_toInt_lt, e1] at h1
  apply Int32.toBitVec_inj.mp
  apply BitVec.eq_of_toNat_eq
  have e : x.toUInt32.toUInt16.toUInt32.toInt32.toBitVec.toNat = x.toUInt32.toUInt16.toUInt32.toNat := rfl
  rw [e, UInt16.toNat_toUInt32, UInt32.toNat_toUInt16]
  show x.toBitVec.toNat % 2 ^ 16 = _
  have q : x.toInt = x.toBitVec.toInt := rfl
  rw [q, BitVec.toInt_eq_toNat_cond] at h0 h1
  have := x.toBitVec.isLt
  split at h0 <;> omega
theorem own_and255 (x : Int32) : ¬ (x &&& 255) < 0 ∧ ¬ 255 < (x &&& 255) := by
  have h : (x &&& 255).toBitVec.toNat < 256 := by
    simp only [Int32.toBitVec_and, BitVec.toNat_and]
    exact Nat.lt_succ_of_le Nat.and_le_right
  have e0 : (0 : Int32).toInt = 0 := rfl
  have e1 : (255 : Int32).toInt = 255 := rfl
  rw [Int32.lt_iff_toInt_lt, Int32.lt_iff_toInt_lt, e0, e1]
  have q : (x &&& 255).toInt = (x &&& 255).toBitVec.toInt := rfl
  rw [q, BitVec.toInt_eq_toNat_cond]
  split <;> omega
/-- a char below 256 -/
def C8 (x : Int32) : Prop := ¬ x < 0 ∧ ¬ (255 : Int32) < x
theorem own_up1 {x : Int32} (h : C8 x) : ¬ x < 0 ∧ ¬ (65535 : Int32) < x := ⟨h.1, fun q => h.2 (by rw [Int32.lt_iff_toInt_lt] at q ⊢; have e1 : (65535 : Int32).toInt = 65535 := rfl; have e2 : (255 : Int32).toInt = 255 := rfl; omega)⟩
theorem own_nar {x : Int32} (h : C8 x) : nar .char x = x := own_i2c (own_up1 h).1 (own_up1 h).2
theorem own_c8m (x : Int32) : C8 ((x &&& 255).toUInt32.toUInt16.toUInt32.toInt32) := by rw [i2c_mask]; exact own_and255 x
theorem own_c8n {x : Int32} (h : C8 x) : C8 (nar .char x) := by rw [own_nar h]; exact h
theorem own_nc {v : Int32} (h : ¬ v < 0 ∧ ¬ 65535 < v) : narrow .char (.int v) = .int v := by
  show Value.int (v.toUInt32.toUInt16.toUInt32.toInt32) = .int v
  rw [own_i2c h.1 h.2]
theorem own_nref {t : FieldType} {w : Value} (h : w.isRef = true) : narrow t w = w := by rcases ref_cases h with rfl | ⟨a, rfl⟩ <;> cases t <;> rfl
theorem own_al0 {P : Int32 → Prop} : ∀ c ∈ ([] : List Int32), P c := fun _ h => nomatch h
theorem own_alS {P : Int32 → Prop} {a : Int32} {L : List Int32} (h : P a) (r : ∀ c ∈ L, P c) : ∀ c ∈ a :: L, P c := List.forall_mem_cons.mpr ⟨h, r⟩
theorem own_up (cs : List Int32) (h : ∀ c ∈ cs, ¬ c < 0 ∧ ¬ (255 : Int32) < c) : ∀ c ∈ cs, ¬ c < 0 ∧ ¬ (65535 : Int32) < c := fun c hc => own_up1 (h c hc)
/-- a flag r says P -/
abbrev TF (r : Int32) (P : Prop) : Prop := (r = 1 ∧ P) ∨ (r = 0 ∧ ¬ P)
theorem own_y {r : Int32} {P : Prop} (h : TF r P) (q : ¬ r = 0) : P := h.elim (fun z => z.2) (fun z => absurd z.1 q)
theorem own_n {r : Int32} {P : Prop} (h : TF r P) (q : r = 0) : ¬ P := h.elim (fun z => absurd (z.1.symm.trans q) (by decide)) (fun z => z.2)
theorem own_b {r : Int32} {P : Prop} (h : TF r P) : r = 0 ∨ r = 1 := h.elim (fun z => Or.inr z.1) (fun z => Or.inl z.1)
theorem own_is1 {r : Int32} {P : Prop} (h : TF r P) (q : P) : r = 1 := h.elim (fun z => z.1) (fun z => absurd q z.2)
theorem own_is0 {r : Int32} {P : Prop} (h : TF r P) (q : ¬ P) : r = 0 := h.elim (fun z => absurd z.2 q) (fun z => z.1)
theorem own_ofN {a : Nat} (h : a < 2147483648) : (Int32.ofNat a).toInt = a := Int32.toInt_ofNat_small h
theorem own_ofN_lt {a b : Nat} (ha : a < 2147483648) (hb : b < 2147483648) : Int32.ofNat a < Int32.ofNat b ↔ a < b := by
  rw [Int32.lt_iff_toInt_lt, own_ofN ha, own_ofN hb]; omega
theorem own_ofN_inj {a b : Nat} (ha : a < 2147483648) (hb : b < 2147483648) : Int32.ofNat a = Int32.ofNat b ↔ a = b := by
  rw [← Int32.toInt_inj, own_ofN ha, own_ofN hb]; omega
theorem own_mask31 (x : Int32) : ∃ a : Nat, a < 2147483648 ∧ x &&& 2147483647 = Int32.ofNat a := by
  have h : (x &&& 2147483647).toBitVec.toNat < 2147483648 := by
    simp only [Int32.toBitVec_and, BitVec.toNat_and]
    exact Nat.lt_succ_of_le Nat.and_le_right
  refine ⟨_, h, ?_⟩
  apply Int32.toBitVec_inj.mp
  show _ = BitVec.ofNat 32 _
  rw [BitVec.ofNat_toNat]; simp
theorem own_rem31 (x : Int32) {m : Nat} (h0 : 0 < m) (h1 : m < 2147483648) : ∃ a : Nat, a < m ∧ (x &&& 2147483647) % Int32.ofNat m = Int32.ofNat a := by
  obtain ⟨a, ha, e⟩ := own_mask31 x
  refine ⟨a % m, Nat.mod_lt _ h0, ?_⟩
  rw [e]
  apply Int32.toInt_inj.mp
  have q : a % m ≤ a := Nat.mod_le _ _
  rw [Int32.toInt_mod, own_ofN ha, own_ofN h1, own_ofN (by omega)]
  exact (Int.ofNat_tmod a m).symm
theorem own_b8 (x : Int32) : (x.toInt8.toInt32).toInt8.toInt32 = x.toInt8.toInt32 := by simp
/-- a Latin-1 String x of the chars cs, its bytes at t -/
def OStr (Z : State) (h : Heap) (x t : Addr) (kb : ClassId) (cs : List Int32) : Prop :=
  Exa Z h x "java/lang/String" ∧ Fld Z h x "java/lang/String" "value" "[B" (.ref t) ∧ Fld Z h x "java/lang/String" "coder" "B" (.int 0) ∧ Arv Z h t kb .byte (Int32.ofNat cs.length) ((cs.map (fun c => c.toInt8.toInt32)).map Value.int) (.int 0) ∧ (∀ c ∈ cs, ¬ c < 0 ∧ ¬ (255 : Int32) < c) ∧ cs.length ≤ 4000
theorem OStr.cod {Z : State} {h : Heap} {x t : Addr} {kb : ClassId} {cs : List Int32} (S : OStr Z h x t kb cs) : StrChars.Road.CodA cs 0 (Int32.ofNat cs.length) ((cs.map (fun c => c.toInt8.toInt32)).map Value.int) := StrChars.Road.codOf rfl (fun c hc => (S.2.2.2.2.1 c hc).2)
theorem own_tfv {v : Option Value} {P : Prop} (h : (v = some (.int 1) ∧ P) ∨ (v = some (.int 0) ∧ ¬ P)) : ∃ r : Int32, v = some (.int r) ∧ TF r P := h.elim (fun z => ⟨1, z.1, Or.inl ⟨rfl, z.2⟩⟩) (fun z => ⟨0, z.1, Or.inr ⟨rfl, z.2⟩⟩)
theorem own_tfeq {r v : Int32} {P : Prop} (h1 : TF r P) (h2 : TF v P) : r = v := h1.elim (fun z => z.1.trans (own_is1 h2 z.2).symm) (fun z => z.1.trans (own_is0 h2 z.2).symm)
theorem own_tfiff {r : Int32} {P Q : Prop} (h : TF r P) (i : P ↔ Q) : TF r Q := h.imp (fun z => ⟨z.1, i.mp z.2⟩) (fun z => ⟨z.1, fun q => z.2 (i.mpr q)⟩)
theorem own_in_words : ∀ d ∈ StrChars.Road.words, d ∈ tables_1 := by decide +kernel
theorem own_in_wordsChN : ∀ d ∈ StrChars.Road.wordsChN, d ∈ tables_1 := by decide +kernel
def own_let (c : Int32) : Prop := (¬ c < 97 ∧ ¬ 122 < c) ∨ (¬ c < 65 ∧ ¬ 90 < c) ∨ c = 95
def own_dig (c : Int32) : Prop := ¬ c < 48 ∧ ¬ 57 < c
def own_ok (c f : Int32) : Prop := own_let c ∨ (f = 0 ∧ own_dig c)
def own_in (k a b : Nat) (c : Int32) : Prop := k < a ∨ ¬ k < b ∨ own_ok c (if k = a then 1 else 0)
def own_name (cs : List Int32) (a b : Nat) : Prop := a < b ∧ ∀ k, a ≤ k → k < b → own_ok (cs.getD k 0) (if k = a then 1 else 0)

def Qok (Z : State) (c f : Int32) (h0 : Heap) (n0 : Nat) (v : Option Value) (h : Heap) (L : List Loc) : Prop := ∃ r : Int32, v = some (.int r) ∧ TF r (own_ok c f) ∧ Fr n0 L ∧ h = h0

theorem own_tl {ch v : Int32} (h : v = (if ch < (97 : Int32) then (if ch < (65 : Int32) then (if ch = (95 : Int32) then (1 : Int32) else (0 : Int32)) else (if (90 : Int32) < ch then (if ch = (95 : Int32) then (1 : Int32) else (0 : Int32)) else (1 : Int32))) else (if (122 : Int32) < ch then (if ch < (65 : Int32) then (if ch = (95 : Int32) then (1 : Int32) else (0 : Int32)) else (if (90 : Int32) < ch then (if ch = (95 : Int32) then (1 : Int32) else (0 : Int32)) else (1 : Int32))) else (1 : Int32)))) : TF v (own_let ch) := by subst h; unfold TF own_let; (repeat' split) <;> simp_all

theorem own_td {ch v : Int32} (h : v = (if ch < (48 : Int32) then (0 : Int32) else (if (57 : Int32) < ch then (0 : Int32) else (1 : Int32)))) : TF v (own_dig ch) := by subst h; unfold TF own_dig; (repeat' split) <;> simp_all

theorem d_method_2_code_0 : decode method_2_code 0 = .ok (.iload_n 0, 1) := by decide +kernel
theorem d_method_2_code_1 : decode method_2_code 1 = .ok (.bipush 97, 2) := by decide +kernel
theorem d_method_2_code_3 : decode method_2_code 3 = .ok (.if_icmp .lt 9, 3) := by decide +kernel
theorem d_method_2_code_12 : decode method_2_code 12 = .ok (.iload_n 0, 1) := by decide +kernel
theorem d_method_2_code_13 : decode method_2_code 13 = .ok (.bipush 65, 2) := by decide +kernel
theorem d_method_2_code_15 : decode method_2_code 15 = .ok (.if_icmp .lt 9, 3) := by decide +kernel
theorem d_method_2_code_24 : decode method_2_code 24 = .ok (.iload_n 0, 1) := by decide +kernel
theorem d_method_2_code_25 : decode method_2_code 25 = .ok (.bipush 95, 2) := by decide +kernel
theorem d_method_2_code_27 : decode method_2_code 27 = .ok (.if_icmp .ne 7, 3) := by decide +kernel
theorem d_method_2_code_30 : decode method_2_code 30 = .ok (.iconst 1, 1) := by decide +kernel
theorem d_method_2_code_31 : decode method_2_code 31 = .ok (.goto 4, 3) := by decide +kernel
theorem d_method_2_code_34 : decode method_2_code 34 = .ok (.iconst 0, 1) := by decide +kernel
theorem d_method_2_code_18 : decode method_2_code 18 = .ok (.iload_n 0, 1) := by decide +kernel
theorem d_method_2_code_19 : decode method_2_code 19 = .ok (.bipush 90, 2) := by decide +kernel
theorem d_method_2_code_21 : decode method_2_code 21 = .ok (.if_icmp .le 9, 3) := by decide +kernel
theorem d_method_2_code_6 : decode method_2_code 6 = .ok (.iload_n 0, 1) := by decide +kernel
theorem d_method_2_code_7 : decode method_2_code 7 = .ok (.bipush 122, 2) := by decide +kernel
theorem d_method_2_code_9 : decode method_2_code 9 = .ok (.if_icmp .le 21, 3) := by decide +kernel
theorem d_method_2_code_35 : decode method_2_code 35 = .ok (.istore_n 2, 1) := by decide +kernel
theorem d_method_2_code_36 : decode method_2_code 36 = .ok (.iload_n 0, 1) := by decide +kernel
theorem d_method_2_code_37 : decode method_2_code 37 = .ok (.bipush 48, 2) := by decide +kernel
theorem d_method_2_code_39 : decode method_2_code 39 = .ok (.if_icmp .lt 13, 3) := by decide +kernel
theorem d_method_2_code_52 : decode method_2_code 52 = .ok (.iconst 0, 1) := by decide +kernel
theorem d_method_2_code_42 : decode method_2_code 42 = .ok (.iload_n 0, 1) := by decide +kernel
theorem d_method_2_code_43 : decode method_2_code 43 = .ok (.bipush 57, 2) := by decide +kernel
theorem d_method_2_code_45 : decode method_2_code 45 = .ok (.if_icmp .gt 7, 3) := by decide +kernel
theorem d_method_2_code_48 : decode method_2_code 48 = .ok (.iconst 1, 1) := by decide +kernel
theorem d_method_2_code_49 : decode method_2_code 49 = .ok (.goto 4, 3) := by decide +kernel
theorem d_method_2_code_53 : decode method_2_code 53 = .ok (.istore_n 3, 1) := by decide +kernel
theorem d_method_2_code_54 : decode method_2_code 54 = .ok (.iload_n 2, 1) := by decide +kernel
theorem d_method_2_code_55 : decode method_2_code 55 = .ok (.ifCond .ne 11, 3) := by decide +kernel
theorem d_method_2_code_58 : decode method_2_code 58 = .ok (.iload_n 1, 1) := by decide +kernel
theorem d_method_2_code_59 : decode method_2_code 59 = .ok (.ifCond .ne 11, 3) := by decide +kernel
theorem d_method_2_code_62 : decode method_2_code 62 = .ok (.iload_n 3, 1) := by decide +kernel
theorem d_method_2_code_63 : decode method_2_code 63 = .ok (.ifCond .eq 7, 3) := by decide +kernel
theorem d_method_2_code_70 : decode method_2_code 70 = .ok (.iconst 0, 1) := by decide +kernel
theorem d_method_2_code_71 : decode method_2_code 71 = .ok (.ireturn, 1) := by decide +kernel
theorem d_method_2_code_66 : decode method_2_code 66 = .ok (.iconst 1, 1) := by decide +kernel
theorem d_method_2_code_67 : decode method_2_code 67 = .ok (.goto 4, 3) := by decide +kernel
theorem pn_com_example_libroute_libroute_pattern_RoutePatternIsNamePinLaw : plainName "com/example/libroute/libroute/pattern/RoutePatternIsNamePinLaw" = true := by first | (simp [plainName, overriddenIn]; done) | decide +kernel
theorem ef_rmOk (m : MethodId) (x0 : Int32) (x1 : Int32) : entryFrame m #[(.int x0), (.int x1)] 4 = mkF m 0 #[.val (.int x0), .val (.int x1), .unset, .unset] [] := by first | (simp [entryFrame, mkF, argsToLocals, Value.category]; done) | rfl
set_option maxRecDepth 65536 in
set_option maxHeartbeats 40000000 in
theorem rmOk (l : Launch) (Z : State) (a0 : Array Value) (hw : ∀ d ∈ tables_1, d.before a0 Z = true) (ws : List Jvm.Cond) (ch f : Int32) (h0 : Heap) (n0 : Nat) (Z0 : n0 ≤ h0.size)  :
    MetFree l (⟨"com/example/libroute/libroute/pattern/RoutePatternIsNamePinLaw", "ok", "(CZ)Z"⟩ : MethodName) (head1 (Jvm.Cond.code (⟨"com/example/libroute/libroute/pattern/RoutePatternIsNamePinLaw", "ok", "(CZ)Z"⟩ : MethodName) method_2_code 4 (some .boolean) :: ws) ({ frames := 0, cells := 0, slots := 0, locals := 0 } : Room)) (fun aa U => aa = #[(.int ch), (.int f)] ∧ Z.Warmed39 U.vm ∧ U.heap = h0) (fun _ _ _ _ _ => True) (fun _ U o U' => ∃ v L, o = .returned v ∧ Qok Z ch f h0 n0 v U'.heap L ∧ FrameEnd U o U' L ({ frames := 0, cells := 0, slots := 0, locals := 0 } : Room).cells ({ frames := 0, cells := 0, slots := 0, locals := 0 } : Room).slots) := by
  refine MetFree.of_bodySF (plainFor_of_name pn_com_example_libroute_libroute_pattern_RoutePatternIsNamePinLaw) hisR ?_
  intro p e s m args below meth c s₁ Bd hml0 hP hK
  obtain ⟨rfl, hZ, hh⟩ := hP
  have hx := Bd.exec
  have hby := Bd.bytes
  have hml : c.maxLocals = 4 := hml0
  have hown : s.vm.findClass "com/example/libroute/libroute/pattern/RoutePatternIsNamePinLaw" = some m.cls := findClass_of_methodNamed Bd.named
  have hnm := (name_of_methodNamed Bd.named Bd.method).1
  have X0 : Stand p l e ({ frames := 0, cells := 0, slots := 0, locals := 0 } : Room) s m #[(.int ch), (.int f)] below meth c s₁ [] 0 0 := Stand.of_body Bd
  have e0 : s₁.heap = h0 := by rw [← hh, Bd.state]; rfl
  have N0 := Fr.nil n0
  have K0 := Keep.refl h0 []
  obtain ⟨S0, hS0⟩ : ∃ z, z = s₁.setTop (entryFrame m #[(.int ch), (.int f)] 4) := ⟨_, rfl⟩
  rw [← hS0]
  have c0 : Steps p.tables e below S0 (s₁.setTop (mkF m 0 #[.val (.int ch), .val (.int f), .unset, .unset] [])) := by
    rw [hS0]; exact castTop (ef_rmOk m ch f) (Steps.refl _)
  have c1 : Steps p.tables e below S0 (s₁.setTop (mkF m 3 #[.val (.int ch), .val (.int f), .unset, .unset] [(.int (97 : Int32)), (.int ch)])) := c0.trans (by
    show Steps p.tables e below (s₁.setTop (mkF m 0 #[.val (.int ch), .val (.int f), .unset, .unset] [])) _
    refine XS.iloadN X0.here hx rfl (hb hby d_method_2_code_0) rfl ?_
    show Steps p.tables e below (s₁.setTop (mkF m 1 #[.val (.int ch), .val (.int f), .unset, .unset] [(.int ch)])) _
    refine XS.bipush X0.here hx rfl (hb hby d_method_2_code_1) ?_
    exact Steps.refl _)
  obtain ⟨vl, hvl, c13⟩ : ∃ (vl : Int32), vl = (if ch < (97 : Int32) then (if ch < (65 : Int32) then (if ch = (95 : Int32) then (1 : Int32) else (0 : Int32)) else (if (90 : Int32) < ch then (if ch = (95 : Int32) then (1 : Int32) else (0 : Int32)) else (1 : Int32))) else (if (122 : Int32) < ch then (if ch < (65 : Int32) then (if ch = (95 : Int32) then (1 : Int32) else (0 : Int32)) else (if (90 : Int32) < ch then (if ch = (95 : Int32) then (1 : Int32) else (0 : Int32)) else (1 : Int32))) else (1 : Int32))) ∧ Steps p.tables e below S0 (s₁.setTop (mkF m 35 #[.val (.int ch), .val (.int f), .unset, .unset] [(.int vl)])) := by
    by_cases hq2 : ch < (97 : Int32)
    · by_cases hq3 : ch < (65 : Int32)
      · by_cases hq4 : ch = (95 : Int32)
        · exact ⟨_, (by rw [if_pos hq2, if_pos hq3, if_pos hq4]), c1.trans (by
            show Steps p.tables e below (s₁.setTop (mkF m 3 #[.val (.int ch), .val (.int f), .unset, .unset] [(.int (97 : Int32)), (.int ch)])) _
            refine XS.icmpYes X0.here hx rfl (pc0 := 3) (pc' := 12) rfl (hb hby d_method_2_code_3) rfl (tlt hq2).1 (by decide) (by decide) ?_
            show Steps p.tables e below (s₁.setTop (mkF m 12 #[.val (.int ch), .val (.int f), .unset, .unset] [])) _
            refine XS.iloadN X0.here hx rfl (hb hby d_method_2_code_12) rfl ?_
            show Steps p.tables e below (s₁.setTop (mkF m 13 #[.val (.int ch), .val (.int f), .unset, .unset] [(.int ch)])) _
            refine XS.bipush X0.here hx rfl (hb hby d_method_2_code_13) ?_
            show Steps p.tables e below (s₁.setTop (mkF m 15 #[.val (.int ch), .val (.int f), .unset, .unset] [(.int (65 : Int32)), (.int ch)])) _
            refine XS.icmpYes X0.here hx rfl (pc0 := 15) (pc' := 24) rfl (hb hby d_method_2_code_15) rfl (tlt hq3).1 (by decide) (by decide) ?_
            show Steps p.tables e below (s₁.setTop (mkF m 24 #[.val (.int ch), .val (.int f), .unset, .unset] [])) _
            refine XS.iloadN X0.here hx rfl (hb hby d_method_2_code_24) rfl ?_
            show Steps p.tables e below (s₁.setTop (mkF m 25 #[.val (.int ch), .val (.int f), .unset, .unset] [(.int ch)])) _
            refine XS.bipush X0.here hx rfl (hb hby d_method_2_code_25) ?_
            show Steps p.tables e below (s₁.setTop (mkF m 27 #[.val (.int ch), .val (.int f), .unset, .unset] [(.int (95 : Int32)), (.int ch)])) _
            refine XS.icmpNo X0.here hx rfl (hb hby d_method_2_code_27) rfl (teq hq4).2 ?_
            show Steps p.tables e below (s₁.setTop (mkF m 30 #[.val (.int ch), .val (.int f), .unset, .unset] [])) _
            refine XS.iconst X0.here hx rfl (hb hby d_method_2_code_30) ?_
            show Steps p.tables e below (s₁.setTop (mkF m 31 #[.val (.int ch), .val (.int f), .unset, .unset] [(.int (1 : Int32))])) _
            refine XS.goto X0.here hx rfl (pc0 := 31) (pc' := 35) rfl (hb hby d_method_2_code_31) (by decide) (by decide) ?_
            exact Steps.refl _)⟩
        · exact ⟨_, (by rw [if_pos hq2, if_pos hq3, if_neg hq4]), c1.trans (by
            show Steps p.tables e below (s₁.setTop (mkF m 3 #[.val (.int ch), .val (.int f), .unset, .unset] [(.int (97 : Int32)), (.int ch)])) _
            refine XS.icmpYes X0.here hx rfl (pc0 := 3) (pc' := 12) rfl (hb hby d_method_2_code_3) rfl (tlt hq2).1 (by decide) (by decide) ?_
            show Steps p.tables e below (s₁.setTop (mkF m 12 #[.val (.int ch), .val (.int f), .unset, .unset] [])) _
            refine XS.iloadN X0.here hx rfl (hb hby d_method_2_code_12) rfl ?_
            show Steps p.tables e below (s₁.setTop (mkF m 13 #[.val (.int ch), .val (.int f), .unset, .unset] [(.int ch)])) _
            refine XS.bipush X0.here hx rfl (hb hby d_method_2_code_13) ?_
            show Steps p.tables e below (s₁.setTop (mkF m 15 #[.val (.int ch), .val (.int f), .unset, .unset] [(.int (65 : Int32)), (.int ch)])) _
            refine XS.icmpYes X0.here hx rfl (pc0 := 15) (pc' := 24) rfl (hb hby d_method_2_code_15) rfl (tlt hq3).1 (by decide) (by decide) ?_
            show Steps p.tables e below (s₁.setTop (mkF m 24 #[.val (.int ch), .val (.int f), .unset, .unset] [])) _
            refine XS.iloadN X0.here hx rfl (hb hby d_method_2_code_24) rfl ?_
            show Steps p.tables e below (s₁.setTop (mkF m 25 #[.val (.int ch), .val (.int f), .unset, .unset] [(.int ch)])) _
            refine XS.bipush X0.here hx rfl (hb hby d_method_2_code_25) ?_
            show Steps p.tables e below (s₁.setTop (mkF m 27 #[.val (.int ch), .val (.int f), .unset, .unset] [(.int (95 : Int32)), (.int ch)])) _
            refine XS.icmpYes X0.here hx rfl (pc0 := 27) (pc' := 34) rfl (hb hby d_method_2_code_27) rfl (feq hq4).2 (by decide) (by decide) ?_
            show Steps p.tables e below (s₁.setTop (mkF m 34 #[.val (.int ch), .val (.int f), .unset, .unset] [])) _
            refine XS.iconst X0.here hx rfl (hb hby d_method_2_code_34) ?_
            exact Steps.refl _)⟩
      · by_cases hq5 : (90 : Int32) < ch
        · by_cases hq6 : ch = (95 : Int32)
          · exact ⟨_, (by rw [if_pos hq2, if_neg hq3, if_pos hq5, if_pos hq6]), c1.trans (by
              show Steps p.tables e below (s₁.setTop (mkF m 3 #[.val (.int ch), .val (.int f), .unset, .unset] [(.int (97 : Int32)), (.int ch)])) _
              refine XS.icmpYes X0.here hx rfl (pc0 := 3) (pc' := 12) rfl (hb hby d_method_2_code_3) rfl (tlt hq2).1 (by decide) (by decide) ?_
              show Steps p.tables e below (s₁.setTop (mkF m 12 #[.val (.int ch), .val (.int f), .unset, .unset] [])) _
              refine XS.iloadN X0.here hx rfl (hb hby d_method_2_code_12) rfl ?_
              show Steps p.tables e below (s₁.setTop (mkF m 13 #[.val (.int ch), .val (.int f), .unset, .unset] [(.int ch)])) _
              refine XS.bipush X0.here hx rfl (hb hby d_method_2_code_13) ?_
              show Steps p.tables e below (s₁.setTop (mkF m 15 #[.val (.int ch), .val (.int f), .unset, .unset] [(.int (65 : Int32)), (.int ch)])) _
              refine XS.icmpNo X0.here hx rfl (hb hby d_method_2_code_15) rfl (flt hq3).1 ?_
              show Steps p.tables e below (s₁.setTop (mkF m 18 #[.val (.int ch), .val (.int f), .unset, .unset] [])) _
              refine XS.iloadN X0.here hx rfl (hb hby d_method_2_code_18) rfl ?_
              show Steps p.tables e below (s₁.setTop (mkF m 19 #[.val (.int ch), .val (.int f), .unset, .unset] [(.int ch)])) _
              refine XS.bipush X0.here hx rfl (hb hby d_method_2_code_19) ?_
              show Steps p.tables e below (s₁.setTop (mkF m 21 #[.val (.int ch), .val (.int f), .unset, .unset] [(.int (90 : Int32)), (.int ch)])) _
              refine XS.icmpNo X0.here hx rfl (hb hby d_method_2_code_21) rfl (tlt hq5).2.2.2 ?_
              show Steps p.tables e below (s₁.setTop (mkF m 24 #[.val (.int ch), .val (.int f), .unset, .unset] [])) _
              refine XS.iloadN X0.here hx rfl (hb hby d_method_2_code_24) rfl ?_
              show Steps p.tables e below (s₁.setTop (mkF m 25 #[.val (.int ch), .val (.int f), .unset, .unset] [(.int ch)])) _
              refine XS.bipush X0.here hx rfl (hb hby d_method_2_code_25) ?_
              show Steps p.tables e below (s₁.setTop (mkF m 27 #[.val (.int ch), .val (.int f), .unset, .unset] [(.int (95 : Int32)), (.int ch)])) _
              refine XS.icmpNo X0.here hx rfl (hb hby d_method_2_code_27) rfl (teq hq6).2 ?_
              show Steps p.tables e below (s₁.setTop (mkF m 30 #[.val (.int ch), .val (.int f), .unset, .unset] [])) _
              refine XS.iconst X0.here hx rfl (hb hby d_method_2_code_30) ?_
              show Steps p.tables e below (s₁.setTop (mkF m 31 #[.val (.int ch), .val (.int f), .unset, .unset] [(.int (1 : Int32))])) _
              refine XS.goto X0.here hx rfl (pc0 := 31) (pc' := 35) rfl (hb hby d_method_2_code_31) (by decide) (by decide) ?_
              exact Steps.refl _)⟩
          · exact ⟨_, (by rw [if_pos hq2, if_neg hq3, if_pos hq5, if_neg hq6]), c1.trans (by
              show Steps p.tables e below (s₁.setTop (mkF m 3 #[.val (.int ch), .val (.int f), .unset, .unset] [(.int (97 : Int32)), (.int ch)])) _
              refine XS.icmpYes X0.here hx rfl (pc0 := 3) (pc' := 12) rfl (hb hby d_method_2_code_3) rfl (tlt hq2).1 (by decide) (by decide) ?_
              show Steps p.tables e below (s₁.setTop (mkF m 12 #[.val (.int ch), .val (.int f), .unset, .unset] [])) _
              refine XS.iloadN X0.here hx rfl (hb hby d_method_2_code_12) rfl ?_
              show Steps p.tables e below (s₁.setTop (mkF m 13 #[.val (.int ch), .val (.int f), .unset, .unset] [(.int ch)])) _
              refine XS.bipush X0.here hx rfl (hb hby d_method_2_code_13) ?_
              show Steps p.tables e below (s₁.setTop (mkF m 15 #[.val (.int ch), .val (.int f), .unset, .unset] [(.int (65 : Int32)), (.int ch)])) _
              refine XS.icmpNo X0.here hx rfl (hb hby d_method_2_code_15) rfl (flt hq3).1 ?_
              show Steps p.tables e below (s₁.setTop (mkF m 18 #[.val (.int ch), .val (.int f), .unset, .unset] [])) _
              refine XS.iloadN X0.here hx rfl (hb hby d_method_2_code_18) rfl ?_
              show Steps p.tables e below (s₁.setTop (mkF m 19 #[.val (.int ch), .val (.int f), .unset, .unset] [(.int ch)])) _
              refine XS.bipush X0.here hx rfl (hb hby d_method_2_code_19) ?_
              show Steps p.tables e below (s₁.setTop (mkF m 21 #[.val (.int ch), .val (.int f), .unset, .unset] [(.int (90 : Int32)), (.int ch)])) _
              refine XS.icmpNo X0.here hx rfl (hb hby d_method_2_code_21) rfl (tlt hq5).2.2.2 ?_
              show Steps p.tables e below (s₁.setTop (mkF m 24 #[.val (.int ch), .val (.int f), .unset, .unset] [])) _
              refine XS.iloadN X0.here hx rfl (hb hby d_method_2_code_24) rfl ?_
              show Steps p.tables e below (s₁.setTop (mkF m 25 #[.val (.int ch), .val (.int f), .unset, .unset] [(.int ch)])) _
              refine XS.bipush X0.here hx rfl (hb hby d_method_2_code_25) ?_
              show Steps p.tables e below (s₁.setTop (mkF m 27 #[.val (.int ch), .val (.int f), .unset, .unset] [(.int (95 : Int32)), (.int ch)])) _
              refine XS.icmpYes X0.here hx rfl (pc0 := 27) (pc' := 34) rfl (hb hby d_method_2_code_27) rfl (feq hq6).2 (by decide) (by decide) ?_
              show Steps p.tables e below (s₁.setTop (mkF m 34 #[.val (.int ch), .val (.int f), .unset, .unset] [])) _
              refine XS.iconst X0.here hx rfl (hb hby d_method_2_code_34) ?_
              exact Steps.refl _)⟩
        · exact ⟨_, (by rw [if_pos hq2, if_neg hq3, if_neg hq5]), c1.trans (by
            show Steps p.tables e below (s₁.setTop (mkF m 3 #[.val (.int ch), .val (.int f), .unset, .unset] [(.int (97 : Int32)), (.int ch)])) _
            refine XS.icmpYes X0.here hx rfl (pc0 := 3) (pc' := 12) rfl (hb hby d_method_2_code_3) rfl (tlt hq2).1 (by decide) (by decide) ?_
            show Steps p.tables e below (s₁.setTop (mkF m 12 #[.val (.int ch), .val (.int f), .unset, .unset] [])) _
            refine XS.iloadN X0.here hx rfl (hb hby d_method_2_code_12) rfl ?_
            show Steps p.tables e below (s₁.setTop (mkF m 13 #[.val (.int ch), .val (.int f), .unset, .unset] [(.int ch)])) _
            refine XS.bipush X0.here hx rfl (hb hby d_method_2_code_13) ?_
            show Steps p.tables e below (s₁.setTop (mkF m 15 #[.val (.int ch), .val (.int f), .unset, .unset] [(.int (65 : Int32)), (.int ch)])) _
            refine XS.icmpNo X0.here hx rfl (hb hby d_method_2_code_15) rfl (flt hq3).1 ?_
            show Steps p.tables e below (s₁.setTop (mkF m 18 #[.val (.int ch), .val (.int f), .unset, .unset] [])) _
            refine XS.iloadN X0.here hx rfl (hb hby d_method_2_code_18) rfl ?_
            show Steps p.tables e below (s₁.setTop (mkF m 19 #[.val (.int ch), .val (.int f), .unset, .unset] [(.int ch)])) _
            refine XS.bipush X0.here hx rfl (hb hby d_method_2_code_19) ?_
            show Steps p.tables e below (s₁.setTop (mkF m 21 #[.val (.int ch), .val (.int f), .unset, .unset] [(.int (90 : Int32)), (.int ch)])) _
            refine XS.icmpYes X0.here hx rfl (pc0 := 21) (pc' := 30) rfl (hb hby d_method_2_code_21) rfl (flt hq5).2.2.2 (by decide) (by decide) ?_
            show Steps p.tables e below (s₁.setTop (mkF m 30 #[.val (.int ch), .val (.int f), .unset, .unset] [])) _
            refine XS.iconst X0.here hx rfl (hb hby d_method_2_code_30) ?_
            show Steps p.tables e below (s₁.setTop (mkF m 31 #[.val (.int ch), .val (.int f), .unset, .unset] [(.int (1 : Int32))])) _
            refine XS.goto X0.here hx rfl (pc0 := 31) (pc' := 35) rfl (hb hby d_method_2_code_31) (by decide) (by decide) ?_
            exact Steps.refl _)⟩
    · by_cases hq7 : (122 : Int32) < ch
      · by_cases hq8 : ch < (65 : Int32)
        · by_cases hq9 : ch = (95 : Int32)
          · exact ⟨_, (by rw [if_neg hq2, if_pos hq7, if_pos hq8, if_pos hq9]), c1.trans (by
              show Steps p.tables e below (s₁.setTop (mkF m 3 #[.val (.int ch), .val (.int f), .unset, .unset] [(.int (97 : Int32)), (.int ch)])) _
              refine XS.icmpNo X0.here hx rfl (hb hby d_method_2_code_3) rfl (flt hq2).1 ?_
              show Steps p.tables e below (s₁.setTop (mkF m 6 #[.val (.int ch), .val (.int f), .unset, .unset] [])) _
              refine XS.iloadN X0.here hx rfl (hb hby d_method_2_code_6) rfl ?_
              show Steps p.tables e below (s₁.setTop (mkF m 7 #[.val (.int ch), .val (.int f), .unset, .unset] [(.int ch)])) _
              refine XS.bipush X0.here hx rfl (hb hby d_method_2_code_7) ?_
              show Steps p.tables e below (s₁.setTop (mkF m 9 #[.val (.int ch), .val (.int f), .unset, .unset] [(.int (122 : Int32)), (.int ch)])) _
              refine XS.icmpNo X0.here hx rfl (hb hby d_method_2_code_9) rfl (tlt hq7).2.2.2 ?_
              show Steps p.tables e below (s₁.setTop (mkF m 12 #[.val (.int ch), .val (.int f), .unset, .unset] [])) _
              refine XS.iloadN X0.here hx rfl (hb hby d_method_2_code_12) rfl ?_
              show Steps p.tables e below (s₁.setTop (mkF m 13 #[.val (.int ch), .val (.int f), .unset, .unset] [(.int ch)])) _
              refine XS.bipush X0.here hx rfl (hb hby d_method_2_code_13) ?_
              show Steps p.tables e below (s₁.setTop (mkF m 15 #[.val (.int ch), .val (.int f), .unset, .unset] [(.int (65 : Int32)), (.int ch)])) _
              refine XS.icmpYes X0.here hx rfl (pc0 := 15) (pc' := 24) rfl (hb hby d_method_2_code_15) rfl (tlt hq8).1 (by decide) (by decide) ?_
              show Steps p.tables e below (s₁.setTop (mkF m 24 #[.val (.int ch), .val (.int f), .unset, .unset] [])) _
              refine XS.iloadN X0.here hx rfl (hb hby d_method_2_code_24) rfl ?_
              show Steps p.tables e below (s₁.setTop (mkF m 25 #[.val (.int ch), .val (.int f), .unset, .unset] [(.int ch)])) _
              refine XS.bipush X0.here hx rfl (hb hby d_method_2_code_25) ?_
              show Steps p.tables e below (s₁.setTop (mkF m 27 #[.val (.int ch), .val (.int f), .unset, .unset] [(.int (95 : Int32)), (.int ch)])) _
              refine XS.icmpNo X0.here hx rfl (hb hby d_method_2_code_27) rfl (teq hq9).2 ?_
              show Steps p.tables e below (s₁.setTop (mkF m 30 #[.val (.int ch), .val (.int f), .unset, .unset] [])) _
              refine XS.iconst X0.here hx rfl (hb hby d_method_2_code_30) ?_
              show Steps p.tables e below (s₁.setTop (mkF m 31 #[.val (.int ch), .val (.int f), .unset, .unset] [(.int (1 : Int32))])) _
              refine XS.goto X0.here hx rfl (pc0 := 31) (pc' := 35) rfl (hb hby d_method_2_code_31) (by decide) (by decide) ?_
              exact Steps.refl _)⟩
          · exact ⟨_, (by rw [if_neg hq2, if_pos hq7, if_pos hq8, if_neg hq9]), c1.trans (by
              show Steps p.tables e below (s₁.setTop (mkF m 3 #[.val (.int ch), .val (.int f), .unset, .unset] [(.int (97 : Int32)), (.int ch)])) _
              refine XS.icmpNo X0.here hx rfl (hb hby d_method_2_code_3) rfl (flt hq2).1 ?_
              show Steps p.tables e below (s₁.setTop (mkF m 6 #[.val (.int ch), .val (.int f), .unset, .unset] [])) _
              refine XS.iloadN X0.here hx rfl (hb hby d_method_2_code_6) rfl ?_
              show Steps p.tables e below (s₁.setTop (mkF m 7 #[.val (.int ch), .val (.int f), .unset, .unset] [(.int ch)])) _
              refine XS.bipush X0.here hx rfl (hb hby d_method_2_code_7) ?_
              show Steps p.tables e below (s₁.setTop (mkF m 9 #[.val (.int ch), .val (.int f), .unset, .unset] [(.int (122 : Int32)), (.int ch)])) _
              refine XS.icmpNo X0.here hx rfl (hb hby d_method_2_code_9) rfl (tlt hq7).2.2.2 ?_
              show Steps p.tables e below (s₁.setTop (mkF m 12 #[.val (.int ch), .val (.int f), .unset, .unset] [])) _
              refine XS.iloadN X0.here hx rfl (hb hby d_method_2_code_12) rfl ?_
              show Steps p.tables e below (s₁.setTop (mkF m 13 #[.val (.int ch), .val (.int f), .unset, .unset] [(.int ch)])) _
              refine XS.bipush X0.here hx rfl (hb hby d_method_2_code_13) ?_
              show Steps p.tables e below (s₁.setTop (mkF m 15 #[.val (.int ch), .val (.int f), .unset, .unset] [(.int (65 : Int32)), (.int ch)])) _
              refine XS.icmpYes X0.here hx rfl (pc0 := 15) (pc' := 24) rfl (hb hby d_method_2_code_15) rfl (tlt hq8).1 (by decide) (by decide) ?_
              show Steps p.tables e below (s₁.setTop (mkF m 24 #[.val (.int ch), .val (.int f), .unset, .unset] [])) _
              refine XS.iloadN X0.here hx rfl (hb hby d_method_2_code_24) rfl ?_
              show Steps p.tables e below (s₁.setTop (mkF m 25 #[.val (.int ch), .val (.int f), .unset, .unset] [(.int ch)])) _
              refine XS.bipush X0.here hx rfl (hb hby d_method_2_code_25) ?_
              show Steps p.tables e below (s₁.setTop (mkF m 27 #[.val (.int ch), .val (.int f), .unset, .unset] [(.int (95 : Int32)), (.int ch)])) _
              refine XS.icmpYes X0.here hx rfl (pc0 := 27) (pc' := 34) rfl (hb hby d_method_2_code_27) rfl (feq hq9).2 (by decide) (by decide) ?_
              show Steps p.tables e below (s₁.setTop (mkF m 34 #[.val (.int ch), .val (.int f), .unset, .unset] [])) _
              refine XS.iconst X0.here hx rfl (hb hby d_method_2_code_34) ?_
              exact Steps.refl _)⟩
        · by_cases hq10 : (90 : Int32) < ch
          · by_cases hq11 : ch = (95 : Int32)
            · exact ⟨_, (by rw [if_neg hq2, if_pos hq7, if_neg hq8, if_pos hq10, if_pos hq11]), c1.trans (by
                show Steps p.tables e below (s₁.setTop (mkF m 3 #[.val (.int ch), .val (.int f), .unset, .unset] [(.int (97 : Int32)), (.int ch)])) _
                refine XS.icmpNo X0.here hx rfl (hb hby d_method_2_code_3) rfl (flt hq2).1 ?_
                show Steps p.tables e below (s₁.setTop (mkF m 6 #[.val (.int ch), .val (.int f), .unset, .unset] [])) _
                refine XS.iloadN X0.here hx rfl (hb hby d_method_2_code_6) rfl ?_
                show Steps p.tables e below (s₁.setTop (mkF m 7 #[.val (.int ch), .val (.int f), .unset, .unset] [(.int ch)])) _
                refine XS.bipush X0.here hx rfl (hb hby d_method_2_code_7) ?_
                show Steps p.tables e below (s₁.setTop (mkF m 9 #[.val (.int ch), .val (.int f), .unset, .unset] [(.int (122 : Int32)), (.int ch)])) _
                refine XS.icmpNo X0.here hx rfl (hb hby d_method_2_code_9) rfl (tlt hq7).2.2.2 ?_
                show Steps p.tables e below (s₁.setTop (mkF m 12 #[.val (.int ch), .val (.int f), .unset, .unset] [])) _
                refine XS.iloadN X0.here hx rfl (hb hby d_method_2_code_12) rfl ?_
                show Steps p.tables e below (s₁.setTop (mkF m 13 #[.val (.int ch), .val (.int f), .unset, .unset] [(.int ch)])) _
                refine XS.bipush X0.here hx rfl (hb hby d_method_2_code_13) ?_
                show Steps p.tables e below (s₁.setTop (mkF m 15 #[.val (.int ch), .val (.int f), .unset, .unset] [(.int (65 : Int32)), (.int ch)])) _
                refine XS.icmpNo X0.here hx rfl (hb hby d_method_2_code_15) rfl (flt hq8).1 ?_
                show Steps p.tables e below (s₁.setTop (mkF m 18 #[.val (.int ch), .val (.int f), .unset, .unset] [])) _
                refine XS.iloadN X0.here hx rfl (hb hby d_method_2_code_18) rfl ?_
                show Steps p.tables e below (s₁.setTop (mkF m 19 #[.val (.int ch), .val (.int f), .unset, .unset] [(.int ch)])) _
                refine XS.bipush X0.here hx rfl (hb hby d_method_2_code_19) ?_
                show Steps p.tables e below (s₁.setTop (mkF m 21 #[.val (.int ch), .val (.int f), .unset, .unset] [(.int (90 : Int32)), (.int ch)])) _
                refine XS.icmpNo X0.here hx rfl (hb hby d_method_2_code_21) rfl (tlt hq10).2.2.2 ?_
                show Steps p.tables e below (s₁.setTop (mkF m 24 #[.val (.int ch), .val (.int f), .unset, .unset] [])) _
                refine XS.iloadN X0.here hx rfl (hb hby d_method_2_code_24) rfl ?_
                show Steps p.tables e below (s₁.setTop (mkF m 25 #[.val (.int ch), .val (.int f), .unset, .unset] [(.int ch)])) _
                refine XS.bipush X0.here hx rfl (hb hby d_method_2_code_25) ?_
                show Steps p.tables e below (s₁.setTop (mkF m 27 #[.val (.int ch), .val (.int f), .unset, .unset] [(.int (95 : Int32)), (.int ch)])) _
                refine XS.icmpNo X0.here hx rfl (hb hby d_method_2_code_27) rfl (teq hq11).2 ?_
                show Steps p.tables e below (s₁.setTop (mkF m 30 #[.val (.int ch), .val (.int f), .unset, .unset] [])) _
                refine XS.iconst X0.here hx rfl (hb hby d_method_2_code_30) ?_
                show Steps p.tables e below (s₁.setTop (mkF m 31 #[.val (.int ch), .val (.int f), .unset, .unset] [(.int (1 : Int32))])) _
                refine XS.goto X0.here hx rfl (pc0 := 31) (pc' := 35) rfl (hb hby d_method_2_code_31) (by decide) (by decide) ?_
                exact Steps.refl _)⟩
            · exact ⟨_, (by rw [if_neg hq2, if_pos hq7, if_neg hq8, if_pos hq10, if_neg hq11]), c1.trans (by
                show Steps p.tables e below (s₁.setTop (mkF m 3 #[.val (.int ch), .val (.int f), .unset, .unset] [(.int (97 : Int32)), (.int ch)])) _
                refine XS.icmpNo X0.here hx rfl (hb hby d_method_2_code_3) rfl (flt hq2).1 ?_
                show Steps p.tables e below (s₁.setTop (mkF m 6 #[.val (.int ch), .val (.int f), .unset, .unset] [])) _
                refine XS.iloadN X0.here hx rfl (hb hby d_method_2_code_6) rfl ?_
                show Steps p.tables e below (s₁.setTop (mkF m 7 #[.val (.int ch), .val (.int f), .unset, .unset] [(.int ch)])) _
                refine XS.bipush X0.here hx rfl (hb hby d_method_2_code_7) ?_
                show Steps p.tables e below (s₁.setTop (mkF m 9 #[.val (.int ch), .val (.int f), .unset, .unset] [(.int (122 : Int32)), (.int ch)])) _
                refine XS.icmpNo X0.here hx rfl (hb hby d_method_2_code_9) rfl (tlt hq7).2.2.2 ?_
                show Steps p.tables e below (s₁.setTop (mkF m 12 #[.val (.int ch), .val (.int f), .unset, .unset] [])) _
                refine XS.iloadN X0.here hx rfl (hb hby d_method_2_code_12) rfl ?_
                show Steps p.tables e below (s₁.setTop (mkF m 13 #[.val (.int ch), .val (.int f), .unset, .unset] [(.int ch)])) _
                refine XS.bipush X0.here hx rfl (hb hby d_method_2_code_13) ?_
                show Steps p.tables e below (s₁.setTop (mkF m 15 #[.val (.int ch), .val (.int f), .unset, .unset] [(.int (65 : Int32)), (.int ch)])) _
                refine XS.icmpNo X0.here hx rfl (hb hby d_method_2_code_15) rfl (flt hq8).1 ?_
                show Steps p.tables e below (s₁.setTop (mkF m 18 #[.val (.int ch), .val (.int f), .unset, .unset] [])) _
                refine XS.iloadN X0.here hx rfl (hb hby d_method_2_code_18) rfl ?_
                show Steps p.tables e below (s₁.setTop (mkF m 19 #[.val (.int ch), .val (.int f), .unset, .unset] [(.int ch)])) _
                refine XS.bipush X0.here hx rfl (hb hby d_method_2_code_19) ?_
                show Steps p.tables e below (s₁.setTop (mkF m 21 #[.val (.int ch), .val (.int f), .unset, .unset] [(.int (90 : Int32)), (.int ch)])) _
                refine XS.icmpNo X0.here hx rfl (hb hby d_method_2_code_21) rfl (tlt hq10).2.2.2 ?_
                show Steps p.tables e below (s₁.setTop (mkF m 24 #[.val (.int ch), .val (.int f), .unset, .unset] [])) _
                refine XS.iloadN X0.here hx rfl (hb hby d_method_2_code_24) rfl ?_
                show Steps p.tables e below (s₁.setTop (mkF m 25 #[.val (.int ch), .val (.int f), .unset, .unset] [(.int ch)])) _
                refine XS.bipush X0.here hx rfl (hb hby d_method_2_code_25) ?_
                show Steps p.tables e below (s₁.setTop (mkF m 27 #[.val (.int ch), .val (.int f), .unset, .unset] [(.int (95 : Int32)), (.int ch)])) _
                refine XS.icmpYes X0.here hx rfl (pc0 := 27) (pc' := 34) rfl (hb hby d_method_2_code_27) rfl (feq hq11).2 (by decide) (by decide) ?_
                show Steps p.tables e below (s₁.setTop (mkF m 34 #[.val (.int ch), .val (.int f), .unset, .unset] [])) _
                refine XS.iconst X0.here hx rfl (hb hby d_method_2_code_34) ?_
                exact Steps.refl _)⟩
          · exact ⟨_, (by rw [if_neg hq2, if_pos hq7, if_neg hq8, if_neg hq10]), c1.trans (by
              show Steps p.tables e below (s₁.setTop (mkF m 3 #[.val (.int ch), .val (.int f), .unset, .unset] [(.int (97 : Int32)), (.int ch)])) _
              refine XS.icmpNo X0.here hx rfl (hb hby d_method_2_code_3) rfl (flt hq2).1 ?_
              show Steps p.tables e below (s₁.setTop (mkF m 6 #[.val (.int ch), .val (.int f), .unset, .unset] [])) _
              refine XS.iloadN X0.here hx rfl (hb hby d_method_2_code_6) rfl ?_
              show Steps p.tables e below (s₁.setTop (mkF m 7 #[.val (.int ch), .val (.int f), .unset, .unset] [(.int ch)])) _
              refine XS.bipush X0.here hx rfl (hb hby d_method_2_code_7) ?_
              show Steps p.tables e below (s₁.setTop (mkF m 9 #[.val (.int ch), .val (.int f), .unset, .unset] [(.int (122 : Int32)), (.int ch)])) _
              refine XS.icmpNo X0.here hx rfl (hb hby d_method_2_code_9) rfl (tlt hq7).2.2.2 ?_
              show Steps p.tables e below (s₁.setTop (mkF m 12 #[.val (.int ch), .val (.int f), .unset, .unset] [])) _
              refine XS.iloadN X0.here hx rfl (hb hby d_method_2_code_12) rfl ?_
              show Steps p.tables e below (s₁.setTop (mkF m 13 #[.val (.int ch), .val (.int f), .unset, .unset] [(.int ch)])) _
              refine XS.bipush X0.here hx rfl (hb hby d_method_2_code_13) ?_
              show Steps p.tables e below (s₁.setTop (mkF m 15 #[.val (.int ch), .val (.int f), .unset, .unset] [(.int (65 : Int32)), (.int ch)])) _
              refine XS.icmpNo X0.here hx rfl (hb hby d_method_2_code_15) rfl (flt hq8).1 ?_
              show Steps p.tables e below (s₁.setTop (mkF m 18 #[.val (.int ch), .val (.int f), .unset, .unset] [])) _
              refine XS.iloadN X0.here hx rfl (hb hby d_method_2_code_18) rfl ?_
              show Steps p.tables e below (s₁.setTop (mkF m 19 #[.val (.int ch), .val (.int f), .unset, .unset] [(.int ch)])) _
              refine XS.bipush X0.here hx rfl (hb hby d_method_2_code_19) ?_
              show Steps p.tables e below (s₁.setTop (mkF m 21 #[.val (.int ch), .val (.int f), .unset, .unset] [(.int (90 : Int32)), (.int ch)])) _
              refine XS.icmpYes X0.here hx rfl (pc0 := 21) (pc' := 30) rfl (hb hby d_method_2_code_21) rfl (flt hq10).2.2.2 (by decide) (by decide) ?_
              show Steps p.tables e below (s₁.setTop (mkF m 30 #[.val (.int ch), .val (.int f), .unset, .unset] [])) _
              refine XS.iconst X0.here hx rfl (hb hby d_method_2_code_30) ?_
              show Steps p.tables e below (s₁.setTop (mkF m 31 #[.val (.int ch), .val (.int f), .unset, .unset] [(.int (1 : Int32))])) _
              refine XS.goto X0.here hx rfl (pc0 := 31) (pc' := 35) rfl (hb hby d_method_2_code_31) (by decide) (by decide) ?_
              exact Steps.refl _)⟩
      · exact ⟨_, (by rw [if_neg hq2, if_neg hq7]), c1.trans (by
          show Steps p.tables e below (s₁.setTop (mkF m 3 #[.val (.int ch), .val (.int f), .unset, .unset] [(.int (97 : Int32)), (.int ch)])) _
          refine XS.icmpNo X0.here hx rfl (hb hby d_method_2_code_3) rfl (flt hq2).1 ?_
          show Steps p.tables e below (s₁.setTop (mkF m 6 #[.val (.int ch), .val (.int f), .unset, .unset] [])) _
          refine XS.iloadN X0.here hx rfl (hb hby d_method_2_code_6) rfl ?_
          show Steps p.tables e below (s₁.setTop (mkF m 7 #[.val (.int ch), .val (.int f), .unset, .unset] [(.int ch)])) _
          refine XS.bipush X0.here hx rfl (hb hby d_method_2_code_7) ?_
          show Steps p.tables e below (s₁.setTop (mkF m 9 #[.val (.int ch), .val (.int f), .unset, .unset] [(.int (122 : Int32)), (.int ch)])) _
          refine XS.icmpYes X0.here hx rfl (pc0 := 9) (pc' := 30) rfl (hb hby d_method_2_code_9) rfl (flt hq7).2.2.2 (by decide) (by decide) ?_
          show Steps p.tables e below (s₁.setTop (mkF m 30 #[.val (.int ch), .val (.int f), .unset, .unset] [])) _
          refine XS.iconst X0.here hx rfl (hb hby d_method_2_code_30) ?_
          show Steps p.tables e below (s₁.setTop (mkF m 31 #[.val (.int ch), .val (.int f), .unset, .unset] [(.int (1 : Int32))])) _
          refine XS.goto X0.here hx rfl (pc0 := 31) (pc' := 35) rfl (hb hby d_method_2_code_31) (by decide) (by decide) ?_
          exact Steps.refl _)⟩
  have tl := own_tl hvl
  have c14 : Steps p.tables e below S0 (s₁.setTop (mkF m 39 #[.val (.int ch), .val (.int f), .val (.int vl), .unset] [(.int (48 : Int32)), (.int ch)])) := c13.trans (by
    show Steps p.tables e below (s₁.setTop (mkF m 35 #[.val (.int ch), .val (.int f), .unset, .unset] [(.int vl)])) _
    refine XS.istoreN X0.here hx rfl (hb hby d_method_2_code_35) rfl (l' := #[.val (.int ch), .val (.int f), .val (.int vl), .unset]) rfl ?_
    show Steps p.tables e below (s₁.setTop (mkF m 36 #[.val (.int ch), .val (.int f), .val (.int vl), .unset] [])) _
    refine XS.iloadN X0.here hx rfl (hb hby d_method_2_code_36) rfl ?_
    show Steps p.tables e below (s₁.setTop (mkF m 37 #[.val (.int ch), .val (.int f), .val (.int vl), .unset] [(.int ch)])) _
    refine XS.bipush X0.here hx rfl (hb hby d_method_2_code_37) ?_
    exact Steps.refl _)
  obtain ⟨vd, hvd, c18⟩ : ∃ (vd : Int32), vd = (if ch < (48 : Int32) then (0 : Int32) else (if (57 : Int32) < ch then (0 : Int32) else (1 : Int32))) ∧ Steps p.tables e below S0 (s₁.setTop (mkF m 53 #[.val (.int ch), .val (.int f), .val (.int vl), .unset] [(.int vd)])) := by
    by_cases hq15 : ch < (48 : Int32)
    · exact ⟨_, (by rw [if_pos hq15]), c14.trans (by
        show Steps p.tables e below (s₁.setTop (mkF m 39 #[.val (.int ch), .val (.int f), .val (.int vl), .unset] [(.int (48 : Int32)), (.int ch)])) _
        refine XS.icmpYes X0.here hx rfl (pc0 := 39) (pc' := 52) rfl (hb hby d_method_2_code_39) rfl (tlt hq15).1 (by decide) (by decide) ?_
        show Steps p.tables e below (s₁.setTop (mkF m 52 #[.val (.int ch), .val (.int f), .val (.int vl), .unset] [])) _
        refine XS.iconst X0.here hx rfl (hb hby d_method_2_code_52) ?_
        exact Steps.refl _)⟩
    · by_cases hq16 : (57 : Int32) < ch
      · exact ⟨_, (by rw [if_neg hq15, if_pos hq16]), c14.trans (by
          show Steps p.tables e below (s₁.setTop (mkF m 39 #[.val (.int ch), .val (.int f), .val (.int vl), .unset] [(.int (48 : Int32)), (.int ch)])) _
          refine XS.icmpNo X0.here hx rfl (hb hby d_method_2_code_39) rfl (flt hq15).1 ?_
          show Steps p.tables e below (s₁.setTop (mkF m 42 #[.val (.int ch), .val (.int f), .val (.int vl), .unset] [])) _
          refine XS.iloadN X0.here hx rfl (hb hby d_method_2_code_42) rfl ?_
          show Steps p.tables e below (s₁.setTop (mkF m 43 #[.val (.int ch), .val (.int f), .val (.int vl), .unset] [(.int ch)])) _
          refine XS.bipush X0.here hx rfl (hb hby d_method_2_code_43) ?_
          show Steps p.tables e below (s₁.setTop (mkF m 45 #[.val (.int ch), .val (.int f), .val (.int vl), .unset] [(.int (57 : Int32)), (.int ch)])) _
          refine XS.icmpYes X0.here hx rfl (pc0 := 45) (pc' := 52) rfl (hb hby d_method_2_code_45) rfl (tlt hq16).2.2.1 (by decide) (by decide) ?_
          show Steps p.tables e below (s₁.setTop (mkF m 52 #[.val (.int ch), .val (.int f), .val (.int vl), .unset] [])) _
          refine XS.iconst X0.here hx rfl (hb hby d_method_2_code_52) ?_
          exact Steps.refl _)⟩
      · exact ⟨_, (by rw [if_neg hq15, if_neg hq16]), c14.trans (by
          show Steps p.tables e below (s₁.setTop (mkF m 39 #[.val (.int ch), .val (.int f), .val (.int vl), .unset] [(.int (48 : Int32)), (.int ch)])) _
          refine XS.icmpNo X0.here hx rfl (hb hby d_method_2_code_39) rfl (flt hq15).1 ?_
          show Steps p.tables e below (s₁.setTop (mkF m 42 #[.val (.int ch), .val (.int f), .val (.int vl), .unset] [])) _
          refine XS.iloadN X0.here hx rfl (hb hby d_method_2_code_42) rfl ?_
          show Steps p.tables e below (s₁.setTop (mkF m 43 #[.val (.int ch), .val (.int f), .val (.int vl), .unset] [(.int ch)])) _
          refine XS.bipush X0.here hx rfl (hb hby d_method_2_code_43) ?_
          show Steps p.tables e below (s₁.setTop (mkF m 45 #[.val (.int ch), .val (.int f), .val (.int vl), .unset] [(.int (57 : Int32)), (.int ch)])) _
          refine XS.icmpNo X0.here hx rfl (hb hby d_method_2_code_45) rfl (flt hq16).2.2.1 ?_
          show Steps p.tables e below (s₁.setTop (mkF m 48 #[.val (.int ch), .val (.int f), .val (.int vl), .unset] [])) _
          refine XS.iconst X0.here hx rfl (hb hby d_method_2_code_48) ?_
          show Steps p.tables e below (s₁.setTop (mkF m 49 #[.val (.int ch), .val (.int f), .val (.int vl), .unset] [(.int (1 : Int32))])) _
          refine XS.goto X0.here hx rfl (pc0 := 49) (pc' := 53) rfl (hb hby d_method_2_code_49) (by decide) (by decide) ?_
          exact Steps.refl _)⟩
  have td := own_td hvd
  have c19 : Steps p.tables e below S0 (s₁.setTop (mkF m 55 #[.val (.int ch), .val (.int f), .val (.int vl), .val (.int vd)] [(.int vl)])) := c18.trans (by
    show Steps p.tables e below (s₁.setTop (mkF m 53 #[.val (.int ch), .val (.int f), .val (.int vl), .unset] [(.int vd)])) _
    refine XS.istoreN X0.here hx rfl (hb hby d_method_2_code_53) rfl (l' := #[.val (.int ch), .val (.int f), .val (.int vl), .val (.int vd)]) rfl ?_
    show Steps p.tables e below (s₁.setTop (mkF m 54 #[.val (.int ch), .val (.int f), .val (.int vl), .val (.int vd)] [])) _
    refine XS.iloadN X0.here hx rfl (hb hby d_method_2_code_54) rfl ?_
    exact Steps.refl _)
  by_cases hq20 : vl = (0 : Int32)
  · have c21 : Steps p.tables e below S0 (s₁.setTop (mkF m 59 #[.val (.int ch), .val (.int f), .val (.int vl), .val (.int vd)] [(.int f)])) := c19.trans (by
      show Steps p.tables e below (s₁.setTop (mkF m 55 #[.val (.int ch), .val (.int f), .val (.int vl), .val (.int vd)] [(.int vl)])) _
      refine XS.ifNo X0.here hx rfl (hb hby d_method_2_code_55) rfl ((if0 _ _).trans (teq hq20).2) ?_
      show Steps p.tables e below (s₁.setTop (mkF m 58 #[.val (.int ch), .val (.int f), .val (.int vl), .val (.int vd)] [])) _
      refine XS.iloadN X0.here hx rfl (hb hby d_method_2_code_58) rfl ?_
      exact Steps.refl _)
    by_cases hq22 : f = (0 : Int32)
    · have c23 : Steps p.tables e below S0 (s₁.setTop (mkF m 63 #[.val (.int ch), .val (.int f), .val (.int vl), .val (.int vd)] [(.int vd)])) := c21.trans (by
        show Steps p.tables e below (s₁.setTop (mkF m 59 #[.val (.int ch), .val (.int f), .val (.int vl), .val (.int vd)] [(.int f)])) _
        refine XS.ifNo X0.here hx rfl (hb hby d_method_2_code_59) rfl ((if0 _ _).trans (teq hq22).2) ?_
        show Steps p.tables e below (s₁.setTop (mkF m 62 #[.val (.int ch), .val (.int f), .val (.int vl), .val (.int vd)] [])) _
        refine XS.iloadN X0.here hx rfl (hb hby d_method_2_code_62) rfl ?_
        exact Steps.refl _)
      by_cases hq24 : vd = (0 : Int32)
      · have c25 : Steps p.tables e below S0 (s₁.setTop (mkF m 71 #[.val (.int ch), .val (.int f), .val (.int vl), .val (.int vd)] [(.int (0 : Int32))])) := c23.trans (by
          show Steps p.tables e below (s₁.setTop (mkF m 63 #[.val (.int ch), .val (.int f), .val (.int vl), .val (.int vd)] [(.int vd)])) _
          refine XS.ifYes X0.here hx rfl (pc0 := 63) (pc' := 70) rfl (hb hby d_method_2_code_63) rfl ((if0 _ _).trans (teq hq24).1) (by decide) (by decide) ?_
          show Steps p.tables e below (s₁.setTop (mkF m 70 #[.val (.int ch), .val (.int f), .val (.int vl), .val (.int vd)] [])) _
          refine XS.iconst X0.here hx rfl (hb hby d_method_2_code_70) ?_
          exact Steps.refl _)
        obtain ⟨fs, hr, hrun, hended, hW, hsame⟩ := X0.leave (v := some (.int (0 : Int32))) (fun h => by rw [Bd.returns] at h; cases h)
        refine ⟨_, _, c25.trans (retOut X0 hx Bd.returns rfl (Or.inl ⟨rfl, by simp, _, rfl⟩) (hb hby d_method_2_code_71) hr), hrun, hended, _, _, rfl, ?_, ⟨_, rfl⟩, hW, hsame.mono (by decide) (by decide)⟩
        show Qok Z ch f h0 n0 _ s₁.heap _
        rw [e0]
        exact ⟨_, rfl, Or.inr ⟨rfl, fun q => q.elim (own_n tl hq20) (fun z => own_n td hq24 z.2)⟩, N0, rfl⟩
      · have c26 : Steps p.tables e below S0 (s₁.setTop (mkF m 71 #[.val (.int ch), .val (.int f), .val (.int vl), .val (.int vd)] [(.int (1 : Int32))])) := c23.trans (by
          show Steps p.tables e below (s₁.setTop (mkF m 63 #[.val (.int ch), .val (.int f), .val (.int vl), .val (.int vd)] [(.int vd)])) _
          refine XS.ifNo X0.here hx rfl (hb hby d_method_2_code_63) rfl ((if0 _ _).trans (feq hq24).1) ?_
          show Steps p.tables e below (s₁.setTop (mkF m 66 #[.val (.int ch), .val (.int f), .val (.int vl), .val (.int vd)] [])) _
          refine XS.iconst X0.here hx rfl (hb hby d_method_2_code_66) ?_
          show Steps p.tables e below (s₁.setTop (mkF m 67 #[.val (.int ch), .val (.int f), .val (.int vl), .val (.int vd)] [(.int (1 : Int32))])) _
          refine XS.goto X0.here hx rfl (pc0 := 67) (pc' := 71) rfl (hb hby d_method_2_code_67) (by decide) (by decide) ?_
          exact Steps.refl _)
        obtain ⟨fs, hr, hrun, hended, hW, hsame⟩ := X0.leave (v := some (.int (1 : Int32))) (fun h => by rw [Bd.returns] at h; cases h)
        refine ⟨_, _, c26.trans (retOut X0 hx Bd.returns rfl (Or.inl ⟨rfl, by simp, _, rfl⟩) (hb hby d_method_2_code_71) hr), hrun, hended, _, _, rfl, ?_, ⟨_, rfl⟩, hW, hsame.mono (by decide) (by decide)⟩
        show Qok Z ch f h0 n0 _ s₁.heap _
        rw [e0]
        exact ⟨_, rfl, Or.inl ⟨rfl, Or.inr ⟨hq22, own_y td hq24⟩⟩, N0, rfl⟩
    · have c27 : Steps p.tables e below S0 (s₁.setTop (mkF m 71 #[.val (.int ch), .val (.int f), .val (.int vl), .val (.int vd)] [(.int (0 : Int32))])) := c21.trans (by
        show Steps p.tables e below (s₁.setTop (mkF m 59 #[.val (.int ch), .val (.int f), .val (.int vl), .val (.int vd)] [(.int f)])) _
        refine XS.ifYes X0.here hx rfl (pc0 := 59) (pc' := 70) rfl (hb hby d_method_2_code_59) rfl ((if0 _ _).trans (feq hq22).2) (by decide) (by decide) ?_
        show Steps p.tables e below (s₁.setTop (mkF m 70 #[.val (.int ch), .val (.int f), .val (.int vl), .val (.int vd)] [])) _
        refine XS.iconst X0.here hx rfl (hb hby d_method_2_code_70) ?_
        exact Steps.refl _)
      obtain ⟨fs, hr, hrun, hended, hW, hsame⟩ := X0.leave (v := some (.int (0 : Int32))) (fun h => by rw [Bd.returns] at h; cases h)
      refine ⟨_, _, c27.trans (retOut X0 hx Bd.returns rfl (Or.inl ⟨rfl, by simp, _, rfl⟩) (hb hby d_method_2_code_71) hr), hrun, hended, _, _, rfl, ?_, ⟨_, rfl⟩, hW, hsame.mono (by decide) (by decide)⟩
      show Qok Z ch f h0 n0 _ s₁.heap _
      rw [e0]
      exact ⟨_, rfl, Or.inr ⟨rfl, fun q => q.elim (own_n tl hq20) (fun z => hq22 z.1)⟩, N0, rfl⟩
  · have c28 : Steps p.tables e below S0 (s₁.setTop (mkF m 71 #[.val (.int ch), .val (.int f), .val (.int vl), .val (.int vd)] [(.int (1 : Int32))])) := c19.trans (by
      show Steps p.tables e below (s₁.setTop (mkF m 55 #[.val (.int ch), .val (.int f), .val (.int vl), .val (.int vd)] [(.int vl)])) _
      refine XS.ifYes X0.here hx rfl (pc0 := 55) (pc' := 66) rfl (hb hby d_method_2_code_55) rfl ((if0 _ _).trans (feq hq20).2) (by decide) (by decide) ?_
      show Steps p.tables e below (s₁.setTop (mkF m 66 #[.val (.int ch), .val (.int f), .val (.int vl), .val (.int vd)] [])) _
      refine XS.iconst X0.here hx rfl (hb hby d_method_2_code_66) ?_
      show Steps p.tables e below (s₁.setTop (mkF m 67 #[.val (.int ch), .val (.int f), .val (.int vl), .val (.int vd)] [(.int (1 : Int32))])) _
      refine XS.goto X0.here hx rfl (pc0 := 67) (pc' := 71) rfl (hb hby d_method_2_code_67) (by decide) (by decide) ?_
      exact Steps.refl _)
    obtain ⟨fs, hr, hrun, hended, hW, hsame⟩ := X0.leave (v := some (.int (1 : Int32))) (fun h => by rw [Bd.returns] at h; cases h)
    refine ⟨_, _, c28.trans (retOut X0 hx Bd.returns rfl (Or.inl ⟨rfl, by simp, _, rfl⟩) (hb hby d_method_2_code_71) hr), hrun, hended, _, _, rfl, ?_, ⟨_, rfl⟩, hW, hsame.mono (by decide) (by decide)⟩
    show Qok Z ch f h0 n0 _ s₁.heap _
    rw [e0]
    exact ⟨_, rfl, Or.inl ⟨rfl, Or.inl (own_y tl hq20)⟩, N0, rfl⟩

def Qin (Z : State) (k a b : Nat) (c : Int32) (h0 : Heap) (n0 : Nat) (v : Option Value) (h : Heap) (L : List Loc) : Prop := ∃ r : Int32, v = some (.int r) ∧ TF r (own_in k a b c) ∧ Fr n0 L ∧ h = h0

theorem d_method_3_code_0 : decode method_3_code 0 = .ok (.iload_n 0, 1) := by decide +kernel
theorem d_method_3_code_1 : decode method_3_code 1 = .ok (.iload_n 1, 1) := by decide +kernel
theorem d_method_3_code_2 : decode method_3_code 2 = .ok (.if_icmp .lt 25, 3) := by decide +kernel
theorem d_method_3_code_27 : decode method_3_code 27 = .ok (.iconst 1, 1) := by decide +kernel
theorem d_method_3_code_28 : decode method_3_code 28 = .ok (.goto 4, 3) := by decide +kernel
theorem d_method_3_code_32 : decode method_3_code 32 = .ok (.ireturn, 1) := by decide +kernel
theorem d_method_3_code_5 : decode method_3_code 5 = .ok (.iload_n 0, 1) := by decide +kernel
theorem d_method_3_code_6 : decode method_3_code 6 = .ok (.iload_n 2, 1) := by decide +kernel
theorem d_method_3_code_7 : decode method_3_code 7 = .ok (.if_icmp .ge 20, 3) := by decide +kernel
theorem d_method_3_code_10 : decode method_3_code 10 = .ok (.iload_n 3, 1) := by decide +kernel
theorem d_method_3_code_11 : decode method_3_code 11 = .ok (.iload_n 0, 1) := by decide +kernel
theorem d_method_3_code_12 : decode method_3_code 12 = .ok (.iload_n 1, 1) := by decide +kernel
theorem d_method_3_code_13 : decode method_3_code 13 = .ok (.if_icmp .ne 7, 3) := by decide +kernel
theorem d_method_3_code_16 : decode method_3_code 16 = .ok (.iconst 1, 1) := by decide +kernel
theorem d_method_3_code_17 : decode method_3_code 17 = .ok (.goto 4, 3) := by decide +kernel
theorem d_method_3_code_20 : decode method_3_code 20 = .ok (.iconst 0, 1) := by decide +kernel
theorem pd_oCZcZ : parseMethodDescriptor "(CZ)Z" = some ⟨[.char, .boolean], some .boolean⟩ := by decide +kernel
theorem d_method_3_code_21 : decode method_3_code 21 = .ok (.invokestatic 7, 3) := by decide +kernel
theorem d_method_3_code_24 : decode method_3_code 24 = .ok (.ifCond .eq 7, 3) := by decide +kernel
theorem d_method_3_code_31 : decode method_3_code 31 = .ok (.iconst 0, 1) := by decide +kernel
theorem ef_rmIn (m : MethodId) (x0 : Int32) (x1 : Int32) (x2 : Int32) (x3 : Int32) : entryFrame m #[(.int x0), (.int x1), (.int x2), (.int x3)] 4 = mkF m 0 #[.val (.int x0), .val (.int x1), .val (.int x2), .val (.int x3)] [] := by first | (simp [entryFrame, mkF, argsToLocals, Value.category]; done) | rfl
set_option maxRecDepth 65536 in
set_option maxHeartbeats 40000000 in
theorem rmIn (l : Launch) (Z : State) (a0 : Array Value) (hw : ∀ d ∈ tables_1, d.before a0 Z = true) (ws : List Jvm.Cond) (k a b : Nat) (ch : Int32) (h0 : Heap) (n0 : Nat) (Z0 : n0 ≤ h0.size) (hk : k < 2147483648) (ha : a < 2147483648) (hb2 : b < 2147483648) :
    MetFree l (⟨"com/example/libroute/libroute/pattern/RoutePatternIsNamePinLaw", "inside", "(IIIC)Z"⟩ : MethodName) (head1 (Jvm.Cond.code (⟨"com/example/libroute/libroute/pattern/RoutePatternIsNamePinLaw", "inside", "(IIIC)Z"⟩ : MethodName) method_3_code 4 (some .boolean) :: ws) ({ frames := 1, cells := 0, slots := 0, locals := 15 } : Room)) (fun aa U => aa = #[(.int (Int32.ofNat k)), (.int (Int32.ofNat a)), (.int (Int32.ofNat b)), (.int ch)] ∧ Z.Warmed39 U.vm ∧ U.heap = h0) (fun _ _ _ _ _ => True) (fun _ U o U' => ∃ v L, o = .returned v ∧ Qin Z k a b ch h0 n0 v U'.heap L ∧ FrameEnd U o U' L ({ frames := 1, cells := 0, slots := 0, locals := 15 } : Room).cells ({ frames := 1, cells := 0, slots := 0, locals := 15 } : Room).slots) := by
  refine MetFree.of_bodySF (plainFor_of_name pn_com_example_libroute_libroute_pattern_RoutePatternIsNamePinLaw) hisR ?_
  intro p e s m args below meth c s₁ Bd hml0 hP hK
  obtain ⟨rfl, hZ, hh⟩ := hP
  have hx := Bd.exec
  have hby := Bd.bytes
  have hml : c.maxLocals = 4 := hml0
  have hown : s.vm.findClass "com/example/libroute/libroute/pattern/RoutePatternIsNamePinLaw" = some m.cls := findClass_of_methodNamed Bd.named
  have hnm := (name_of_methodNamed Bd.named Bd.method).1
  have X0 : Stand p l e ({ frames := 1, cells := 0, slots := 0, locals := 15 } : Room) s m #[(.int (Int32.ofNat k)), (.int (Int32.ofNat a)), (.int (Int32.ofNat b)), (.int ch)] below meth c s₁ [] 0 0 := Stand.of_body Bd
  have e0 : s₁.heap = h0 := by rw [← hh, Bd.state]; rfl
  have N0 := Fr.nil n0
  have K0 := Keep.refl h0 []
  obtain ⟨S0, hS0⟩ : ∃ z, z = s₁.setTop (entryFrame m #[(.int (Int32.ofNat k)), (.int (Int32.ofNat a)), (.int (Int32.ofNat b)), (.int ch)] 4) := ⟨_, rfl⟩
  rw [← hS0]
  have c0 : Steps p.tables e below S0 (s₁.setTop (mkF m 0 #[.val (.int (Int32.ofNat k)), .val (.int (Int32.ofNat a)), .val (.int (Int32.ofNat b)), .val (.int ch)] [])) := by
    rw [hS0]; exact castTop (ef_rmIn m (Int32.ofNat k) (Int32.ofNat a) (Int32.ofNat b) ch) (Steps.refl _)
  have c1 : Steps p.tables e below S0 (s₁.setTop (mkF m 2 #[.val (.int (Int32.ofNat k)), .val (.int (Int32.ofNat a)), .val (.int (Int32.ofNat b)), .val (.int ch)] [(.int (Int32.ofNat a)), (.int (Int32.ofNat k))])) := c0.trans (by
    show Steps p.tables e below (s₁.setTop (mkF m 0 #[.val (.int (Int32.ofNat k)), .val (.int (Int32.ofNat a)), .val (.int (Int32.ofNat b)), .val (.int ch)] [])) _
    refine XS.iloadN X0.here hx rfl (hb hby d_method_3_code_0) rfl ?_
    show Steps p.tables e below (s₁.setTop (mkF m 1 #[.val (.int (Int32.ofNat k)), .val (.int (Int32.ofNat a)), .val (.int (Int32.ofNat b)), .val (.int ch)] [(.int (Int32.ofNat k))])) _
    refine XS.iloadN X0.here hx rfl (hb hby d_method_3_code_1) rfl ?_
    exact Steps.refl _)
  by_cases hq2 : (Int32.ofNat k) < (Int32.ofNat a)
  · have c3 : Steps p.tables e below S0 (s₁.setTop (mkF m 32 #[.val (.int (Int32.ofNat k)), .val (.int (Int32.ofNat a)), .val (.int (Int32.ofNat b)), .val (.int ch)] [(.int (1 : Int32))])) := c1.trans (by
      show Steps p.tables e below (s₁.setTop (mkF m 2 #[.val (.int (Int32.ofNat k)), .val (.int (Int32.ofNat a)), .val (.int (Int32.ofNat b)), .val (.int ch)] [(.int (Int32.ofNat a)), (.int (Int32.ofNat k))])) _
      refine XS.icmpYes X0.here hx rfl (pc0 := 2) (pc' := 27) rfl (hb hby d_method_3_code_2) rfl (tlt hq2).1 (by decide) (by decide) ?_
      show Steps p.tables e below (s₁.setTop (mkF m 27 #[.val (.int (Int32.ofNat k)), .val (.int (Int32.ofNat a)), .val (.int (Int32.ofNat b)), .val (.int ch)] [])) _
      refine XS.iconst X0.here hx rfl (hb hby d_method_3_code_27) ?_
      show Steps p.tables e below (s₁.setTop (mkF m 28 #[.val (.int (Int32.ofNat k)), .val (.int (Int32.ofNat a)), .val (.int (Int32.ofNat b)), .val (.int ch)] [(.int (1 : Int32))])) _
      refine XS.goto X0.here hx rfl (pc0 := 28) (pc' := 32) rfl (hb hby d_method_3_code_28) (by decide) (by decide) ?_
      exact Steps.refl _)
    obtain ⟨fs, hr, hrun, hended, hW, hsame⟩ := X0.leave (v := some (.int (1 : Int32))) (fun h => by rw [Bd.returns] at h; cases h)
    refine ⟨_, _, c3.trans (retOut X0 hx Bd.returns rfl (Or.inl ⟨rfl, by simp, _, rfl⟩) (hb hby d_method_3_code_32) hr), hrun, hended, _, _, rfl, ?_, ⟨_, rfl⟩, hW, hsame.mono (by decide) (by decide)⟩
    show Qin Z k a b ch h0 n0 _ s₁.heap _
    rw [e0]
    exact ⟨_, rfl, Or.inl ⟨rfl, Or.inl ((own_ofN_lt hk ha).mp hq2)⟩, N0, rfl⟩
  · have c4 : Steps p.tables e below S0 (s₁.setTop (mkF m 7 #[.val (.int (Int32.ofNat k)), .val (.int (Int32.ofNat a)), .val (.int (Int32.ofNat b)), .val (.int ch)] [(.int (Int32.ofNat b)), (.int (Int32.ofNat k))])) := c1.trans (by
      show Steps p.tables e below (s₁.setTop (mkF m 2 #[.val (.int (Int32.ofNat k)), .val (.int (Int32.ofNat a)), .val (.int (Int32.ofNat b)), .val (.int ch)] [(.int (Int32.ofNat a)), (.int (Int32.ofNat k))])) _
      refine XS.icmpNo X0.here hx rfl (hb hby d_method_3_code_2) rfl (flt hq2).1 ?_
      show Steps p.tables e below (s₁.setTop (mkF m 5 #[.val (.int (Int32.ofNat k)), .val (.int (Int32.ofNat a)), .val (.int (Int32.ofNat b)), .val (.int ch)] [])) _
      refine XS.iloadN X0.here hx rfl (hb hby d_method_3_code_5) rfl ?_
      show Steps p.tables e below (s₁.setTop (mkF m 6 #[.val (.int (Int32.ofNat k)), .val (.int (Int32.ofNat a)), .val (.int (Int32.ofNat b)), .val (.int ch)] [(.int (Int32.ofNat k))])) _
      refine XS.iloadN X0.here hx rfl (hb hby d_method_3_code_6) rfl ?_
      exact Steps.refl _)
    by_cases hq5 : (Int32.ofNat k) < (Int32.ofNat b)
    · have c6 : Steps p.tables e below S0 (s₁.setTop (mkF m 13 #[.val (.int (Int32.ofNat k)), .val (.int (Int32.ofNat a)), .val (.int (Int32.ofNat b)), .val (.int ch)] [(.int (Int32.ofNat a)), (.int (Int32.ofNat k)), (.int ch)])) := c4.trans (by
        show Steps p.tables e below (s₁.setTop (mkF m 7 #[.val (.int (Int32.ofNat k)), .val (.int (Int32.ofNat a)), .val (.int (Int32.ofNat b)), .val (.int ch)] [(.int (Int32.ofNat b)), (.int (Int32.ofNat k))])) _
        refine XS.icmpNo X0.here hx rfl (hb hby d_method_3_code_7) rfl (tlt hq5).2.1 ?_
        show Steps p.tables e below (s₁.setTop (mkF m 10 #[.val (.int (Int32.ofNat k)), .val (.int (Int32.ofNat a)), .val (.int (Int32.ofNat b)), .val (.int ch)] [])) _
        refine XS.iloadN X0.here hx rfl (hb hby d_method_3_code_10) rfl ?_
        show Steps p.tables e below (s₁.setTop (mkF m 11 #[.val (.int (Int32.ofNat k)), .val (.int (Int32.ofNat a)), .val (.int (Int32.ofNat b)), .val (.int ch)] [(.int ch)])) _
        refine XS.iloadN X0.here hx rfl (hb hby d_method_3_code_11) rfl ?_
        show Steps p.tables e below (s₁.setTop (mkF m 12 #[.val (.int (Int32.ofNat k)), .val (.int (Int32.ofNat a)), .val (.int (Int32.ofNat b)), .val (.int ch)] [(.int (Int32.ofNat k)), (.int ch)])) _
        refine XS.iloadN X0.here hx rfl (hb hby d_method_3_code_12) rfl ?_
        exact Steps.refl _)
      obtain ⟨vf, hvf, c9⟩ : ∃ (vf : Int32), vf = (if (Int32.ofNat k) = (Int32.ofNat a) then (1 : Int32) else (0 : Int32)) ∧ Steps p.tables e below S0 (s₁.setTop (mkF m 21 #[.val (.int (Int32.ofNat k)), .val (.int (Int32.ofNat a)), .val (.int (Int32.ofNat b)), .val (.int ch)] [(.int vf), (.int ch)])) := by
        by_cases hq7 : (Int32.ofNat k) = (Int32.ofNat a)
        · exact ⟨_, (by rw [if_pos hq7]), c6.trans (by
            show Steps p.tables e below (s₁.setTop (mkF m 13 #[.val (.int (Int32.ofNat k)), .val (.int (Int32.ofNat a)), .val (.int (Int32.ofNat b)), .val (.int ch)] [(.int (Int32.ofNat a)), (.int (Int32.ofNat k)), (.int ch)])) _
            refine XS.icmpNo X0.here hx rfl (hb hby d_method_3_code_13) rfl (teq hq7).2 ?_
            show Steps p.tables e below (s₁.setTop (mkF m 16 #[.val (.int (Int32.ofNat k)), .val (.int (Int32.ofNat a)), .val (.int (Int32.ofNat b)), .val (.int ch)] [(.int ch)])) _
            refine XS.iconst X0.here hx rfl (hb hby d_method_3_code_16) ?_
            show Steps p.tables e below (s₁.setTop (mkF m 17 #[.val (.int (Int32.ofNat k)), .val (.int (Int32.ofNat a)), .val (.int (Int32.ofNat b)), .val (.int ch)] [(.int (1 : Int32)), (.int ch)])) _
            refine XS.goto X0.here hx rfl (pc0 := 17) (pc' := 21) rfl (hb hby d_method_3_code_17) (by decide) (by decide) ?_
            exact Steps.refl _)⟩
        · exact ⟨_, (by rw [if_neg hq7]), c6.trans (by
            show Steps p.tables e below (s₁.setTop (mkF m 13 #[.val (.int (Int32.ofNat k)), .val (.int (Int32.ofNat a)), .val (.int (Int32.ofNat b)), .val (.int ch)] [(.int (Int32.ofNat a)), (.int (Int32.ofNat k)), (.int ch)])) _
            refine XS.icmpYes X0.here hx rfl (pc0 := 13) (pc' := 20) rfl (hb hby d_method_3_code_13) rfl (feq hq7).2 (by decide) (by decide) ?_
            show Steps p.tables e below (s₁.setTop (mkF m 20 #[.val (.int (Int32.ofNat k)), .val (.int (Int32.ofNat a)), .val (.int (Int32.ofNat b)), .val (.int ch)] [(.int ch)])) _
            refine XS.iconst X0.here hx rfl (hb hby d_method_3_code_20) ?_
            exact Steps.refl _)⟩
      obtain ⟨_, _, ⟨T10, L10, kk10, nn10⟩, -, X10, ⟨Lc10, hQ10, l10, y10, z10⟩, st10⟩ := Jvm.LawKit.callS X0 hx (y := (⟨"com/example/libroute/libroute/pattern/RoutePatternIsNamePinLaw", "ok", "(CZ)Z"⟩ : MethodName)) hown (mvT hZ (hw _ (List.mem_of_getElem? (i := 35) rfl))) (mvT hZ (hw _ (List.mem_of_getElem? (i := 36) rfl))) (mvT hZ (hw _ (List.mem_of_getElem? (i := 33) rfl))) (mvT hZ (hw _ (List.mem_of_getElem? (i := 37) rfl))) (by decide) (backOf (W := 0) (rmOk l Z a0 hw [] ch vf h0 n0 Z0 ) hZ (hw _ (List.mem_of_getElem? (i := 37) rfl)) (hw _ (List.mem_of_getElem? (i := 33) rfl)) (by decide) (by decide)) (g := (mkF m 21 #[.val (.int (Int32.ofNat k)), .val (.int (Int32.ofNat a)), .val (.int (Int32.ofNat b)), .val (.int ch)] [(.int vf), (.int ch)])) rfl (by rw [hml]; rfl) (argsL := [(.int ch), (.int vf)]) (rest := []) (lenOf pd_oCZcZ rfl) rfl (by show 2 * 0 + _ ≤ _; exact Nat.le_of_eq rfl) (hb hby d_method_3_code_21) (fun _ _ => ⟨rfl, e0, (by decide : 0 + 0 ≤ _), (by decide : 0 + 0 ≤ _)⟩)
      dsimp only [Pt.U, Pt.locs, Pt.cells, Pt.slots] at X10 l10 y10 z10 st10 hQ10
      subst l10 y10 z10
      obtain ⟨r10, rfl, hr10, Nq10, eq10⟩ := hQ10
      have c11 : Steps p.tables e below S0 (T10.setTop (mkF m 24 #[.val (.int (Int32.ofNat k)), .val (.int (Int32.ofNat a)), .val (.int (Int32.ofNat b)), .val (.int ch)] [(.int r10)])) := c9.trans (st10 _ (Steps.refl _))
      have N10 := Fr.app N0 Nq10
      by_cases hq12 : r10 = (0 : Int32)
      · have c13 : Steps p.tables e below S0 (T10.setTop (mkF m 32 #[.val (.int (Int32.ofNat k)), .val (.int (Int32.ofNat a)), .val (.int (Int32.ofNat b)), .val (.int ch)] [(.int (0 : Int32))])) := c11.trans (by
          show Steps p.tables e below (T10.setTop (mkF m 24 #[.val (.int (Int32.ofNat k)), .val (.int (Int32.ofNat a)), .val (.int (Int32.ofNat b)), .val (.int ch)] [(.int r10)])) _
          refine XS.ifYes X10.here hx rfl (pc0 := 24) (pc' := 31) rfl (hb hby d_method_3_code_24) rfl ((if0 _ _).trans (teq hq12).1) (by decide) (by decide) ?_
          show Steps p.tables e below (T10.setTop (mkF m 31 #[.val (.int (Int32.ofNat k)), .val (.int (Int32.ofNat a)), .val (.int (Int32.ofNat b)), .val (.int ch)] [])) _
          refine XS.iconst X10.here hx rfl (hb hby d_method_3_code_31) ?_
          exact Steps.refl _)
        obtain ⟨fs, hr, hrun, hended, hW, hsame⟩ := X10.leave (v := some (.int (0 : Int32))) (fun h => by rw [Bd.returns] at h; cases h)
        refine ⟨_, _, c13.trans (retOut X10 hx Bd.returns rfl (Or.inl ⟨rfl, by simp, _, rfl⟩) (hb hby d_method_3_code_32) hr), hrun, hended, _, _, rfl, ?_, ⟨_, rfl⟩, hW, hsame.mono (by decide) (by decide)⟩
        show Qin Z k a b ch h0 n0 _ T10.heap _
        rw [eq10]
        exact ⟨_, rfl, Or.inr ⟨rfl, fun q => q.elim (fun z => hq2 ((own_ofN_lt hk ha).mpr z)) (fun q => q.elim (fun z => z ((own_ofN_lt hk hb2).mp hq5)) (fun z => own_n hr10 hq12 ((show vf = (if k = a then 1 else 0) from hvf.trans (by simp only [own_ofN_inj hk ha])) ▸ z)))⟩, N10, rfl⟩
      · have c14 : Steps p.tables e below S0 (T10.setTop (mkF m 32 #[.val (.int (Int32.ofNat k)), .val (.int (Int32.ofNat a)), .val (.int (Int32.ofNat b)), .val (.int ch)] [(.int (1 : Int32))])) := c11.trans (by
          show Steps p.tables e below (T10.setTop (mkF m 24 #[.val (.int (Int32.ofNat k)), .val (.int (Int32.ofNat a)), .val (.int (Int32.ofNat b)), .val (.int ch)] [(.int r10)])) _
          refine XS.ifNo X10.here hx rfl (hb hby d_method_3_code_24) rfl ((if0 _ _).trans (feq hq12).1) ?_
          show Steps p.tables e below (T10.setTop (mkF m 27 #[.val (.int (Int32.ofNat k)), .val (.int (Int32.ofNat a)), .val (.int (Int32.ofNat b)), .val (.int ch)] [])) _
          refine XS.iconst X10.here hx rfl (hb hby d_method_3_code_27) ?_
          show Steps p.tables e below (T10.setTop (mkF m 28 #[.val (.int (Int32.ofNat k)), .val (.int (Int32.ofNat a)), .val (.int (Int32.ofNat b)), .val (.int ch)] [(.int (1 : Int32))])) _
          refine XS.goto X10.here hx rfl (pc0 := 28) (pc' := 32) rfl (hb hby d_method_3_code_28) (by decide) (by decide) ?_
          exact Steps.refl _)
        obtain ⟨fs, hr, hrun, hended, hW, hsame⟩ := X10.leave (v := some (.int (1 : Int32))) (fun h => by rw [Bd.returns] at h; cases h)
        refine ⟨_, _, c14.trans (retOut X10 hx Bd.returns rfl (Or.inl ⟨rfl, by simp, _, rfl⟩) (hb hby d_method_3_code_32) hr), hrun, hended, _, _, rfl, ?_, ⟨_, rfl⟩, hW, hsame.mono (by decide) (by decide)⟩
        show Qin Z k a b ch h0 n0 _ T10.heap _
        rw [eq10]
        exact ⟨_, rfl, Or.inl ⟨rfl, Or.inr (Or.inr ((show vf = (if k = a then 1 else 0) from hvf.trans (by simp only [own_ofN_inj hk ha])) ▸ own_y hr10 hq12))⟩, N10, rfl⟩
    · have c15 : Steps p.tables e below S0 (s₁.setTop (mkF m 32 #[.val (.int (Int32.ofNat k)), .val (.int (Int32.ofNat a)), .val (.int (Int32.ofNat b)), .val (.int ch)] [(.int (1 : Int32))])) := c4.trans (by
        show Steps p.tables e below (s₁.setTop (mkF m 7 #[.val (.int (Int32.ofNat k)), .val (.int (Int32.ofNat a)), .val (.int (Int32.ofNat b)), .val (.int ch)] [(.int (Int32.ofNat b)), (.int (Int32.ofNat k))])) _
        refine XS.icmpYes X0.here hx rfl (pc0 := 7) (pc' := 27) rfl (hb hby d_method_3_code_7) rfl (flt hq5).2.1 (by decide) (by decide) ?_
        show Steps p.tables e below (s₁.setTop (mkF m 27 #[.val (.int (Int32.ofNat k)), .val (.int (Int32.ofNat a)), .val (.int (Int32.ofNat b)), .val (.int ch)] [])) _
        refine XS.iconst X0.here hx rfl (hb hby d_method_3_code_27) ?_
        show Steps p.tables e below (s₁.setTop (mkF m 28 #[.val (.int (Int32.ofNat k)), .val (.int (Int32.ofNat a)), .val (.int (Int32.ofNat b)), .val (.int ch)] [(.int (1 : Int32))])) _
        refine XS.goto X0.here hx rfl (pc0 := 28) (pc' := 32) rfl (hb hby d_method_3_code_28) (by decide) (by decide) ?_
        exact Steps.refl _)
      obtain ⟨fs, hr, hrun, hended, hW, hsame⟩ := X0.leave (v := some (.int (1 : Int32))) (fun h => by rw [Bd.returns] at h; cases h)
      refine ⟨_, _, c15.trans (retOut X0 hx Bd.returns rfl (Or.inl ⟨rfl, by simp, _, rfl⟩) (hb hby d_method_3_code_32) hr), hrun, hended, _, _, rfl, ?_, ⟨_, rfl⟩, hW, hsame.mono (by decide) (by decide)⟩
      show Qin Z k a b ch h0 n0 _ s₁.heap _
      rw [e0]
      exact ⟨_, rfl, Or.inl ⟨rfl, Or.inr (Or.inl fun q => hq5 ((own_ofN_lt hk hb2).mpr q))⟩, N0, rfl⟩

def Qnm (Z : State) (cs : List Int32) (a b : Nat) (h0 : Heap) (n0 : Nat) (v : Option Value) (h : Heap) (L : List Loc) : Prop := ∃ r : Int32, v = some (.int r) ∧ TF r (own_name cs a b) ∧ Fr n0 L ∧ h = h0

theorem own_tm {cs : List Int32} {a k : Nat} {nx : Int32} (h1 : a ≤ k) (h2 : k < 2147483648) (h3 : a < 2147483648) (h : nx = (if (cs.getD k 0) < (97 : Int32) then (if (cs.getD k 0) < (65 : Int32) then (if (cs.getD k 0) = (95 : Int32) then (1 : Int32) else (if (Int32.ofNat a) < (Int32.ofNat k) then (if (cs.getD k 0) < (48 : Int32) then (0 : Int32) else (if (57 : Int32) < (cs.getD k 0) then (0 : Int32) else (1 : Int32))) else (0 : Int32))) else (if (90 : Int32) < (cs.getD k 0) then (if (cs.getD k 0) = (95 : Int32) then (1 : Int32) else (if (Int32.ofNat a) < (Int32.ofNat k) then (if (cs.getD k 0) < (48 : Int32) then (0 : Int32) else (if (57 : Int32) < (cs.getD k 0) then (0 : Int32) else (1 : Int32))) else (0 : Int32))) else (1 : Int32))) else (if (122 : Int32) < (cs.getD k 0) then (if (cs.getD k 0) < (65 : Int32) then (if (cs.getD k 0) = (95 : Int32) then (1 : Int32) else (if (Int32.ofNat a) < (Int32.ofNat k) then (if (cs.getD k 0) < (48 : Int32) then (0 : Int32) else (if (57 : Int32) < (cs.getD k 0) then (0 : Int32) else (1 : Int32))) else (0 : Int32))) else (if (90 : Int32) < (cs.getD k 0) then (if (cs.getD k 0) = (95 : Int32) then (1 : Int32) else (if (Int32.ofNat a) < (Int32.ofNat k) then (if (cs.getD k 0) < (48 : Int32) then (0 : Int32) else (if (57 : Int32) < (cs.getD k 0) then (0 : Int32) else (1 : Int32))) else (0 : Int32))) else (1 : Int32))) else (1 : Int32)))) : TF nx (own_ok (cs.getD k 0) (if k = a then 1 else 0)) := by
  have q : Int32.ofNat a < Int32.ofNat k ↔ ¬ k = a := by rw [own_ofN_lt h3 h2]; omega
  simp only [q] at h
  generalize cs.getD k 0 = c at h ⊢
  subst h
  unfold TF own_ok own_let own_dig
  by_cases hk : k = a
  · simp only [hk, not_true_eq_false, if_true, if_false]
    (repeat' split) <;> simp_all
  · simp only [hk, not_false_eq_true, if_true, if_false]
    (repeat' split) <;> simp_all

theorem d_prog_14_method_15_code_0 : decode prog_14_method_15_code 0 = .ok (.iload_n 1, 1) := by decide +kernel
theorem d_prog_14_method_15_code_1 : decode prog_14_method_15_code 1 = .ok (.iload_n 2, 1) := by decide +kernel
theorem d_prog_14_method_15_code_2 : decode prog_14_method_15_code 2 = .ok (.if_icmp .ge 7, 3) := by decide +kernel
theorem d_prog_14_method_15_code_5 : decode prog_14_method_15_code 5 = .ok (.iconst 1, 1) := by decide +kernel
theorem d_prog_14_method_15_code_6 : decode prog_14_method_15_code 6 = .ok (.goto 4, 3) := by decide +kernel
theorem d_prog_14_method_15_code_9 : decode prog_14_method_15_code 9 = .ok (.iconst 0, 1) := by decide +kernel
theorem d_prog_14_method_15_code_10 : decode prog_14_method_15_code 10 = .ok (.istore_n 3, 1) := by decide +kernel
theorem d_prog_14_method_15_code_11 : decode prog_14_method_15_code 11 = .ok (.iload_n 1, 1) := by decide +kernel
theorem d_prog_14_method_15_code_12 : decode prog_14_method_15_code 12 = .ok (.istore 4, 2) := by decide +kernel
theorem d_prog_14_method_15_code_14 : decode prog_14_method_15_code 14 = .ok (.iload_n 3, 1) := by decide +kernel
theorem d_prog_14_method_15_code_15 : decode prog_14_method_15_code 15 = .ok (.ifCond .eq 84, 3) := by decide +kernel
theorem d_prog_14_method_15_code_18 : decode prog_14_method_15_code 18 = .ok (.iload 4, 2) := by decide +kernel
theorem d_prog_14_method_15_code_20 : decode prog_14_method_15_code 20 = .ok (.iload_n 2, 1) := by decide +kernel
theorem d_prog_14_method_15_code_21 : decode prog_14_method_15_code 21 = .ok (.if_icmp .ge 78, 3) := by decide +kernel
theorem d_prog_14_method_15_code_24 : decode prog_14_method_15_code 24 = .ok (.aload_n 0, 1) := by decide +kernel
theorem d_prog_14_method_15_code_25 : decode prog_14_method_15_code 25 = .ok (.iload 4, 2) := by decide +kernel
theorem pd_oIcC : parseMethodDescriptor "(I)C" = some ⟨[.int], some .char⟩ := by decide +kernel
theorem d_prog_14_method_15_code_27 : decode prog_14_method_15_code 27 = .ok (.invokevirtual 124, 3) := by decide +kernel
theorem d_prog_14_method_15_code_30 : decode prog_14_method_15_code 30 = .ok (.istore 5, 2) := by decide +kernel
theorem d_prog_14_method_15_code_32 : decode prog_14_method_15_code 32 = .ok (.iload 5, 2) := by decide +kernel
theorem d_prog_14_method_15_code_34 : decode prog_14_method_15_code 34 = .ok (.bipush 97, 2) := by decide +kernel
theorem d_prog_14_method_15_code_36 : decode prog_14_method_15_code 36 = .ok (.if_icmp .lt 10, 3) := by decide +kernel
theorem d_prog_14_method_15_code_46 : decode prog_14_method_15_code 46 = .ok (.iload 5, 2) := by decide +kernel
theorem d_prog_14_method_15_code_48 : decode prog_14_method_15_code 48 = .ok (.bipush 65, 2) := by decide +kernel
theorem d_prog_14_method_15_code_50 : decode prog_14_method_15_code 50 = .ok (.if_icmp .lt 10, 3) := by decide +kernel
theorem d_prog_14_method_15_code_60 : decode prog_14_method_15_code 60 = .ok (.iload 5, 2) := by decide +kernel
theorem d_prog_14_method_15_code_62 : decode prog_14_method_15_code 62 = .ok (.bipush 95, 2) := by decide +kernel
theorem d_prog_14_method_15_code_64 : decode prog_14_method_15_code 64 = .ok (.if_icmp .eq 23, 3) := by decide +kernel
theorem d_prog_14_method_15_code_87 : decode prog_14_method_15_code 87 = .ok (.iconst 1, 1) := by decide +kernel
theorem d_prog_14_method_15_code_88 : decode prog_14_method_15_code 88 = .ok (.goto 4, 3) := by decide +kernel
theorem d_prog_14_method_15_code_67 : decode prog_14_method_15_code 67 = .ok (.iload 4, 2) := by decide +kernel
theorem d_prog_14_method_15_code_69 : decode prog_14_method_15_code 69 = .ok (.iload_n 1, 1) := by decide +kernel
theorem d_prog_14_method_15_code_70 : decode prog_14_method_15_code 70 = .ok (.if_icmp .le 21, 3) := by decide +kernel
theorem d_prog_14_method_15_code_73 : decode prog_14_method_15_code 73 = .ok (.iload 5, 2) := by decide +kernel
theorem d_prog_14_method_15_code_75 : decode prog_14_method_15_code 75 = .ok (.bipush 48, 2) := by decide +kernel
theorem d_prog_14_method_15_code_77 : decode prog_14_method_15_code 77 = .ok (.if_icmp .lt 14, 3) := by decide +kernel
theorem d_prog_14_method_15_code_91 : decode prog_14_method_15_code 91 = .ok (.iconst 0, 1) := by decide +kernel
theorem d_prog_14_method_15_code_80 : decode prog_14_method_15_code 80 = .ok (.iload 5, 2) := by decide +kernel
theorem d_prog_14_method_15_code_82 : decode prog_14_method_15_code 82 = .ok (.bipush 57, 2) := by decide +kernel
theorem d_prog_14_method_15_code_84 : decode prog_14_method_15_code 84 = .ok (.if_icmp .gt 7, 3) := by decide +kernel
theorem d_prog_14_method_15_code_53 : decode prog_14_method_15_code 53 = .ok (.iload 5, 2) := by decide +kernel
theorem d_prog_14_method_15_code_55 : decode prog_14_method_15_code 55 = .ok (.bipush 90, 2) := by decide +kernel
theorem d_prog_14_method_15_code_57 : decode prog_14_method_15_code 57 = .ok (.if_icmp .le 30, 3) := by decide +kernel
theorem d_prog_14_method_15_code_39 : decode prog_14_method_15_code 39 = .ok (.iload 5, 2) := by decide +kernel
theorem d_prog_14_method_15_code_41 : decode prog_14_method_15_code 41 = .ok (.bipush 122, 2) := by decide +kernel
theorem d_prog_14_method_15_code_43 : decode prog_14_method_15_code 43 = .ok (.if_icmp .le 44, 3) := by decide +kernel
theorem d_prog_14_method_15_code_92 : decode prog_14_method_15_code 92 = .ok (.istore_n 3, 1) := by decide +kernel
theorem d_prog_14_method_15_code_93 : decode prog_14_method_15_code 93 = .ok (.iinc 4 1, 3) := by decide +kernel
theorem d_prog_14_method_15_code_96 : decode prog_14_method_15_code 96 = .ok (.goto (-82), 3) := by decide +kernel
theorem d_prog_14_method_15_code_99 : decode prog_14_method_15_code 99 = .ok (.iload_n 3, 1) := by decide +kernel
theorem d_prog_14_method_15_code_100 : decode prog_14_method_15_code 100 = .ok (.ireturn, 1) := by decide +kernel
theorem pn_com_example_libroute_libroute_pattern_RoutePattern : plainName "com/example/libroute/libroute/pattern/RoutePattern" = true := by first | (simp [plainName, overriddenIn]; done) | decide +kernel
theorem ef_rmNm (m : MethodId) (x0 : Addr) (x1 : Int32) (x2 : Int32) : entryFrame m #[(.ref x0), (.int x1), (.int x2)] 6 = mkF m 0 #[.val (.ref x0), .val (.int x1), .val (.int x2), .unset, .unset, .unset] [] := by first | (simp [entryFrame, mkF, argsToLocals, Value.category]; done) | rfl
set_option maxRecDepth 65536 in
set_option maxHeartbeats 40000000 in
theorem rmNm (l : Launch) (Z : State) (a0 : Array Value) (hw : ∀ d ∈ tables_1, d.before a0 Z = true) (ws : List Jvm.Cond) (x t : Addr) (kb : ClassId) (N2 : Int32) (vs : List Value) (cs : List Int32) (a b : Nat) (G1 : Int32) (G3 : Value) (h0 : Heap) (n0 : Nat) (Z0 : n0 ≤ h0.size) (Ex : Exa Z h0 x "java/lang/String") (Fv : Fld Z h0 x "java/lang/String" "value" "[B" (.ref t)) (Fc : Fld Z h0 x "java/lang/String" "coder" "B" (.int 0)) (Va : Arv Z h0 t kb .byte N2 vs (.int 0)) (hcd : StrChars.Road.CodA cs 0 N2 vs) (hbd : ∀ c ∈ cs, ¬ c < 0 ∧ ¬ (65535 : Int32) < c) (hl4 : cs.length ≤ 4000) (ha : a < 4000) (hb2 : b ≤ cs.length) (O2 : Sta Z Z.heap "java/lang/String" "COMPACT_STRINGS" "Z" (.int G1)) (P5 : ¬ G1 = 0) (X00 : Old Z n0 h0) (O4 : Sta Z Z.heap "jdk/internal/util/Preconditions" "SIOOBE_FORMATTER" "Ljava/util/function/BiFunction;" G3) (rG3 : G3.isRef = true) :
    MetFree l (⟨"com/example/libroute/libroute/pattern/RoutePattern", "isName", "(Ljava/lang/String;II)Z"⟩ : MethodName) (head1 (Jvm.Cond.code (⟨"com/example/libroute/libroute/pattern/RoutePattern", "isName", "(Ljava/lang/String;II)Z"⟩ : MethodName) prog_14_method_15_code 6 (some .boolean) :: ws) ({ frames := 4, cells := 0, slots := 0, locals := 53 } : Room)) (fun aa U => aa = #[(.ref x), (.int (Int32.ofNat a)), (.int (Int32.ofNat b))] ∧ Z.Warmed39 U.vm ∧ U.heap = h0) (fun _ _ _ _ _ => True) (fun _ U o U' => ∃ v L, o = .returned v ∧ Qnm Z cs a b h0 n0 v U'.heap L ∧ FrameEnd U o U' L ({ frames := 4, cells := 0, slots := 0, locals := 53 } : Room).cells ({ frames := 4, cells := 0, slots := 0, locals := 53 } : Room).slots) := by
  refine MetFree.of_bodySF (plainFor_of_name pn_com_example_libroute_libroute_pattern_RoutePattern) hisR ?_
  intro p e s m args below meth c s₁ Bd hml0 hP hK
  obtain ⟨rfl, hZ, hh⟩ := hP
  have hx := Bd.exec
  have hby := Bd.bytes
  have hml : c.maxLocals = 6 := hml0
  have hown : s.vm.findClass "com/example/libroute/libroute/pattern/RoutePattern" = some m.cls := findClass_of_methodNamed Bd.named
  have hnm := (name_of_methodNamed Bd.named Bd.method).1
  have X0 : Stand p l e ({ frames := 4, cells := 0, slots := 0, locals := 53 } : Room) s m #[(.ref x), (.int (Int32.ofNat a)), (.int (Int32.ofNat b))] below meth c s₁ [] 0 0 := Stand.of_body Bd
  have e0 : s₁.heap = h0 := by rw [← hh, Bd.state]; rfl
  have N0 := Fr.nil n0
  have K0 := Keep.refl h0 []
  obtain ⟨S0, hS0⟩ : ∃ z, z = s₁.setTop (entryFrame m #[(.ref x), (.int (Int32.ofNat a)), (.int (Int32.ofNat b))] 6) := ⟨_, rfl⟩
  rw [← hS0]
  have c0 : Steps p.tables e below S0 (s₁.setTop (mkF m 0 #[.val (.ref x), .val (.int (Int32.ofNat a)), .val (.int (Int32.ofNat b)), .unset, .unset, .unset] [])) := by
    rw [hS0]; exact castTop (ef_rmNm m x (Int32.ofNat a) (Int32.ofNat b)) (Steps.refl _)
  have c1 : Steps p.tables e below S0 (s₁.setTop (mkF m 2 #[.val (.ref x), .val (.int (Int32.ofNat a)), .val (.int (Int32.ofNat b)), .unset, .unset, .unset] [(.int (Int32.ofNat b)), (.int (Int32.ofNat a))])) := c0.trans (by
    show Steps p.tables e below (s₁.setTop (mkF m 0 #[.val (.ref x), .val (.int (Int32.ofNat a)), .val (.int (Int32.ofNat b)), .unset, .unset, .unset] [])) _
    refine XS.iloadN X0.here hx rfl (hb hby d_prog_14_method_15_code_0) rfl ?_
    show Steps p.tables e below (s₁.setTop (mkF m 1 #[.val (.ref x), .val (.int (Int32.ofNat a)), .val (.int (Int32.ofNat b)), .unset, .unset, .unset] [(.int (Int32.ofNat a))])) _
    refine XS.iloadN X0.here hx rfl (hb hby d_prog_14_method_15_code_1) rfl ?_
    exact Steps.refl _)
  obtain ⟨nm0, hnm0, c4⟩ : ∃ (nm0 : Int32), nm0 = (if (Int32.ofNat a) < (Int32.ofNat b) then (1 : Int32) else (0 : Int32)) ∧ Steps p.tables e below S0 (s₁.setTop (mkF m 10 #[.val (.ref x), .val (.int (Int32.ofNat a)), .val (.int (Int32.ofNat b)), .unset, .unset, .unset] [(.int nm0)])) := by
    by_cases hq2 : (Int32.ofNat a) < (Int32.ofNat b)
    · exact ⟨_, (by rw [if_pos hq2]), c1.trans (by
        show Steps p.tables e below (s₁.setTop (mkF m 2 #[.val (.ref x), .val (.int (Int32.ofNat a)), .val (.int (Int32.ofNat b)), .unset, .unset, .unset] [(.int (Int32.ofNat b)), (.int (Int32.ofNat a))])) _
        refine XS.icmpNo X0.here hx rfl (hb hby d_prog_14_method_15_code_2) rfl (tlt hq2).2.1 ?_
        show Steps p.tables e below (s₁.setTop (mkF m 5 #[.val (.ref x), .val (.int (Int32.ofNat a)), .val (.int (Int32.ofNat b)), .unset, .unset, .unset] [])) _
        refine XS.iconst X0.here hx rfl (hb hby d_prog_14_method_15_code_5) ?_
        show Steps p.tables e below (s₁.setTop (mkF m 6 #[.val (.ref x), .val (.int (Int32.ofNat a)), .val (.int (Int32.ofNat b)), .unset, .unset, .unset] [(.int (1 : Int32))])) _
        refine XS.goto X0.here hx rfl (pc0 := 6) (pc' := 10) rfl (hb hby d_prog_14_method_15_code_6) (by decide) (by decide) ?_
        exact Steps.refl _)⟩
    · exact ⟨_, (by rw [if_neg hq2]), c1.trans (by
        show Steps p.tables e below (s₁.setTop (mkF m 2 #[.val (.ref x), .val (.int (Int32.ofNat a)), .val (.int (Int32.ofNat b)), .unset, .unset, .unset] [(.int (Int32.ofNat b)), (.int (Int32.ofNat a))])) _
        refine XS.icmpYes X0.here hx rfl (pc0 := 2) (pc' := 9) rfl (hb hby d_prog_14_method_15_code_2) rfl (flt hq2).2.1 (by decide) (by decide) ?_
        show Steps p.tables e below (s₁.setTop (mkF m 9 #[.val (.ref x), .val (.int (Int32.ofNat a)), .val (.int (Int32.ofNat b)), .unset, .unset, .unset] [])) _
        refine XS.iconst X0.here hx rfl (hb hby d_prog_14_method_15_code_9) ?_
        exact Steps.refl _)⟩
  have c5 : Steps p.tables e below S0 (s₁.setTop (mkF m 14 #[.val (.ref x), .val (.int (Int32.ofNat a)), .val (.int (Int32.ofNat b)), .val (.int nm0), .val (.int (Int32.ofNat a)), .unset] [])) := c4.trans (by
    show Steps p.tables e below (s₁.setTop (mkF m 10 #[.val (.ref x), .val (.int (Int32.ofNat a)), .val (.int (Int32.ofNat b)), .unset, .unset, .unset] [(.int nm0)])) _
    refine XS.istoreN X0.here hx rfl (hb hby d_prog_14_method_15_code_10) rfl (l' := #[.val (.ref x), .val (.int (Int32.ofNat a)), .val (.int (Int32.ofNat b)), .val (.int nm0), .unset, .unset]) rfl ?_
    show Steps p.tables e below (s₁.setTop (mkF m 11 #[.val (.ref x), .val (.int (Int32.ofNat a)), .val (.int (Int32.ofNat b)), .val (.int nm0), .unset, .unset] [])) _
    refine XS.iloadN X0.here hx rfl (hb hby d_prog_14_method_15_code_11) rfl ?_
    show Steps p.tables e below (s₁.setTop (mkF m 12 #[.val (.ref x), .val (.int (Int32.ofNat a)), .val (.int (Int32.ofNat b)), .val (.int nm0), .unset, .unset] [(.int (Int32.ofNat a))])) _
    refine XS.istore X0.here hx rfl (hb hby d_prog_14_method_15_code_12) rfl (l' := #[.val (.ref x), .val (.int (Int32.ofNat a)), .val (.int (Int32.ofNat b)), .val (.int nm0), .val (.int (Int32.ofNat a)), .unset]) rfl ?_
    exact Steps.refl _)
  have lp : ∀ (n k : Nat) (nm : Int32) (o : Slot) (T : State) (locs : List Loc), n = b - k → a ≤ k → k < 2000000 → (o = .unset ∨ ∃ w, o = .val w ∧ w.category = 1) → ((nm = 1 ∧ a < b ∧ k ≤ b ∧ ∀ j, a ≤ j → j < k → own_ok (cs.getD j 0) (if j = a then 1 else 0)) ∨ (nm = 0 ∧ ¬ own_name cs a b)) → Fr n0 locs → Stand p l e ({ frames := 4, cells := 0, slots := 0, locals := 53 } : Room) s m #[(.ref x), (.int (Int32.ofNat a)), (.int (Int32.ofNat b))] below meth c T locs 0 0 → T.heap = h0 → Steps p.tables e below S0 (T.setTop (mkF m 14 #[.val (.ref x), .val (.int (Int32.ofNat a)), .val (.int (Int32.ofNat b)), .val (.int nm), .val (.int (Int32.ofNat k)), o] [])) →
      ∃ (r i : Int32) (o : Slot) (T : State) (locs : List Loc), TF r (own_name cs a b) ∧ Fr n0 locs ∧ Stand p l e ({ frames := 4, cells := 0, slots := 0, locals := 53 } : Room) s m #[(.ref x), (.int (Int32.ofNat a)), (.int (Int32.ofNat b))] below meth c T locs 0 0 ∧ T.heap = h0 ∧ Steps p.tables e below S0 (T.setTop (mkF m 99 #[.val (.ref x), .val (.int (Int32.ofNat a)), .val (.int (Int32.ofNat b)), .val (.int r), .val (.int i), o] [])) := by
    intro n
    induction n with
    | zero =>
      intro k nm o T locs hn hak hk4 ho hI NN X eT cc
      have c6 : Steps p.tables e below S0 (T.setTop (mkF m 15 #[.val (.ref x), .val (.int (Int32.ofNat a)), .val (.int (Int32.ofNat b)), .val (.int nm), .val (.int (Int32.ofNat k)), o] [(.int nm)])) := cc.trans (by
        show Steps p.tables e below (T.setTop (mkF m 14 #[.val (.ref x), .val (.int (Int32.ofNat a)), .val (.int (Int32.ofNat b)), .val (.int nm), .val (.int (Int32.ofNat k)), o] [])) _
        refine XS.iloadN X.here hx rfl (hb hby d_prog_14_method_15_code_14) rfl ?_
        exact Steps.refl _)
      by_cases hq7 : nm = (0 : Int32)
      · have c8 : Steps p.tables e below S0 (T.setTop (mkF m 99 #[.val (.ref x), .val (.int (Int32.ofNat a)), .val (.int (Int32.ofNat b)), .val (.int nm), .val (.int (Int32.ofNat k)), o] [])) := c6.trans (by
          show Steps p.tables e below (T.setTop (mkF m 15 #[.val (.ref x), .val (.int (Int32.ofNat a)), .val (.int (Int32.ofNat b)), .val (.int nm), .val (.int (Int32.ofNat k)), o] [(.int nm)])) _
          refine XS.ifYes X.here hx rfl (pc0 := 15) (pc' := 99) rfl (hb hby d_prog_14_method_15_code_15) rfl ((if0 _ _).trans (teq hq7).1) (by decide) (by decide) ?_
          exact Steps.refl _)
        have tr : TF nm (own_name cs a b) := hI.elim (fun y => absurd (y.1.symm.trans hq7) (by decide)) (fun y => Or.inr y)
        exact ⟨nm, _, _, T, _, tr, NN, X, eT, c8⟩
      · have c9 : Steps p.tables e below S0 (T.setTop (mkF m 99 #[.val (.ref x), .val (.int (Int32.ofNat a)), .val (.int (Int32.ofNat b)), .val (.int nm), .val (.int (Int32.ofNat k)), o] [])) := c6.trans (by
          show Steps p.tables e below (T.setTop (mkF m 15 #[.val (.ref x), .val (.int (Int32.ofNat a)), .val (.int (Int32.ofNat b)), .val (.int nm), .val (.int (Int32.ofNat k)), o] [(.int nm)])) _
          refine XS.ifNo X.here hx rfl (hb hby d_prog_14_method_15_code_15) rfl ((if0 _ _).trans (feq hq7).1) ?_
          show Steps p.tables e below (T.setTop (mkF m 18 #[.val (.ref x), .val (.int (Int32.ofNat a)), .val (.int (Int32.ofNat b)), .val (.int nm), .val (.int (Int32.ofNat k)), o] [])) _
          refine XS.iload X.here hx rfl (hb hby d_prog_14_method_15_code_18) rfl ?_
          show Steps p.tables e below (T.setTop (mkF m 20 #[.val (.ref x), .val (.int (Int32.ofNat a)), .val (.int (Int32.ofNat b)), .val (.int nm), .val (.int (Int32.ofNat k)), o] [(.int (Int32.ofNat k))])) _
          refine XS.iloadN X.here hx rfl (hb hby d_prog_14_method_15_code_20) rfl ?_
          show Steps p.tables e below (T.setTop (mkF m 21 #[.val (.ref x), .val (.int (Int32.ofNat a)), .val (.int (Int32.ofNat b)), .val (.int nm), .val (.int (Int32.ofNat k)), o] [(.int (Int32.ofNat b)), (.int (Int32.ofNat k))])) _
          refine XS.icmpYes X.here hx rfl (pc0 := 21) (pc' := 99) rfl (hb hby d_prog_14_method_15_code_21) rfl (flt (fun z => absurd ((own_ofN_lt (by omega) (by omega)).mp z) (by omega) : ¬ (Int32.ofNat k) < (Int32.ofNat b))).2.1 (by decide) (by decide) ?_
          exact Steps.refl _)
        have nb : ¬ k < b := fun y => (fun z => absurd ((own_ofN_lt (by omega) (by omega)).mp z) (by omega) : ¬ (Int32.ofNat k) < (Int32.ofNat b)) ((own_ofN_lt (by omega) (by omega)).mpr y)
        have tr : TF nm (own_name cs a b) := hI.elim (fun y => Or.inl ⟨y.1, y.2.1, fun j q1 q2 => y.2.2.2 j q1 (by omega)⟩) (fun y => absurd y.1 hq7)
        exact ⟨nm, _, _, T, _, tr, NN, X, eT, c9⟩
    | succ n ih =>
      intro k nm o T locs hn hak hk4 ho hI NN X eT cc
      have c10 : Steps p.tables e below S0 (T.setTop (mkF m 15 #[.val (.ref x), .val (.int (Int32.ofNat a)), .val (.int (Int32.ofNat b)), .val (.int nm), .val (.int (Int32.ofNat k)), o] [(.int nm)])) := cc.trans (by
        show Steps p.tables e below (T.setTop (mkF m 14 #[.val (.ref x), .val (.int (Int32.ofNat a)), .val (.int (Int32.ofNat b)), .val (.int nm), .val (.int (Int32.ofNat k)), o] [])) _
        refine XS.iloadN X.here hx rfl (hb hby d_prog_14_method_15_code_14) rfl ?_
        exact Steps.refl _)
      by_cases hq11 : nm = (0 : Int32)
      · have c12 : Steps p.tables e below S0 (T.setTop (mkF m 99 #[.val (.ref x), .val (.int (Int32.ofNat a)), .val (.int (Int32.ofNat b)), .val (.int nm), .val (.int (Int32.ofNat k)), o] [])) := c10.trans (by
          show Steps p.tables e below (T.setTop (mkF m 15 #[.val (.ref x), .val (.int (Int32.ofNat a)), .val (.int (Int32.ofNat b)), .val (.int nm), .val (.int (Int32.ofNat k)), o] [(.int nm)])) _
          refine XS.ifYes X.here hx rfl (pc0 := 15) (pc' := 99) rfl (hb hby d_prog_14_method_15_code_15) rfl ((if0 _ _).trans (teq hq11).1) (by decide) (by decide) ?_
          exact Steps.refl _)
        have tr : TF nm (own_name cs a b) := hI.elim (fun y => absurd (y.1.symm.trans hq11) (by decide)) (fun y => Or.inr y)
        exact ⟨nm, _, _, T, _, tr, NN, X, eT, c12⟩
      · have c13 : Steps p.tables e below S0 (T.setTop (mkF m 21 #[.val (.ref x), .val (.int (Int32.ofNat a)), .val (.int (Int32.ofNat b)), .val (.int nm), .val (.int (Int32.ofNat k)), o] [(.int (Int32.ofNat b)), (.int (Int32.ofNat k))])) := c10.trans (by
          show Steps p.tables e below (T.setTop (mkF m 15 #[.val (.ref x), .val (.int (Int32.ofNat a)), .val (.int (Int32.ofNat b)), .val (.int nm), .val (.int (Int32.ofNat k)), o] [(.int nm)])) _
          refine XS.ifNo X.here hx rfl (hb hby d_prog_14_method_15_code_15) rfl ((if0 _ _).trans (feq hq11).1) ?_
          show Steps p.tables e below (T.setTop (mkF m 18 #[.val (.ref x), .val (.int (Int32.ofNat a)), .val (.int (Int32.ofNat b)), .val (.int nm), .val (.int (Int32.ofNat k)), o] [])) _
          refine XS.iload X.here hx rfl (hb hby d_prog_14_method_15_code_18) rfl ?_
          show Steps p.tables e below (T.setTop (mkF m 20 #[.val (.ref x), .val (.int (Int32.ofNat a)), .val (.int (Int32.ofNat b)), .val (.int nm), .val (.int (Int32.ofNat k)), o] [(.int (Int32.ofNat k))])) _
          refine XS.iloadN X.here hx rfl (hb hby d_prog_14_method_15_code_20) rfl ?_
          exact Steps.refl _)
        by_cases hq14 : (Int32.ofNat k) < (Int32.ofNat b)
        · have hkb : k < b := (own_ofN_lt (by omega) (by omega)).mp hq14
          have c15 : Steps p.tables e below S0 (T.setTop (mkF m 27 #[.val (.ref x), .val (.int (Int32.ofNat a)), .val (.int (Int32.ofNat b)), .val (.int nm), .val (.int (Int32.ofNat k)), o] [(.int (Int32.ofNat k)), (.ref x)])) := c13.trans (by
            show Steps p.tables e below (T.setTop (mkF m 21 #[.val (.ref x), .val (.int (Int32.ofNat a)), .val (.int (Int32.ofNat b)), .val (.int nm), .val (.int (Int32.ofNat k)), o] [(.int (Int32.ofNat b)), (.int (Int32.ofNat k))])) _
            refine XS.icmpNo X.here hx rfl (hb hby d_prog_14_method_15_code_21) rfl (tlt hq14).2.1 ?_
            show Steps p.tables e below (T.setTop (mkF m 24 #[.val (.ref x), .val (.int (Int32.ofNat a)), .val (.int (Int32.ofNat b)), .val (.int nm), .val (.int (Int32.ofNat k)), o] [])) _
            refine XS.aloadN X.here hx rfl (hb hby d_prog_14_method_15_code_24) rfl rfl ?_
            show Steps p.tables e below (T.setTop (mkF m 25 #[.val (.ref x), .val (.int (Int32.ofNat a)), .val (.int (Int32.ofNat b)), .val (.int nm), .val (.int (Int32.ofNat k)), o] [(.ref x)])) _
            refine XS.iload X.here hx rfl (hb hby d_prog_14_method_15_code_25) rfl ?_
            exact Steps.refl _)
          have hch16 : ∀ d ∈ StrChars.Road.wordsChN, d.before a0 Z = true := fun d hd => hw d (own_in_wordsChN d hd)
          obtain ⟨cq17, kq17, q17a, q17b, q17c⟩ := isOf hZ eT Ex
          obtain ⟨_, _, ⟨T17, L17, kk17, nn17⟩, -, X17, ⟨Lc17, hQ17, l17, y17, z17⟩, st17⟩ := X.virtualBack hx (y := (⟨"java/lang/String", "charAt", "(I)C"⟩ : MethodName)) (z := (⟨"java/lang/String", "charAt", "(I)C"⟩ : MethodName)) hown (mvT hZ (hw _ (List.mem_of_getElem? (i := 42) rfl))) (mvT hZ (hw _ (List.mem_of_getElem? (i := 43) rfl))) (notFace_of_selects (args := #[]) (mvT hZ (hw _ (List.mem_of_getElem? (i := 45) rfl)))) (mvT hZ (hw _ (List.mem_of_getElem? (i := 45) rfl))) (mvT hZ (hw _ (List.mem_of_getElem? (i := 44) rfl))) (by decide) (StrChars.Road.chN (W := 0) hZ hch16 (kI := 4) (hw _ (List.mem_of_getElem? (i := 2) rfl)) Ex Fv Fc Va hcd hbd (O2.ext X00.2) P5 (O4.ext X00.2) rG3 hl4 (i := k) (Nat.lt_of_lt_of_le hkb hb2) (j := (Int32.ofNat k)) rfl (by decide) (by decide)) q17a q17c (g := (mkF m 27 #[.val (.ref x), .val (.int (Int32.ofNat a)), .val (.int (Int32.ofNat b)), .val (.int nm), .val (.int (Int32.ofNat k)), o] [(.int (Int32.ofNat k)), (.ref x)])) rfl (by rw [hml]; rfl) (Steps.refl _) (argsL := [(.int (Int32.ofNat k))]) (rest := []) (lenOf pd_oIcC rfl) rfl (by show 2 * 0 + _ ≤ _; exact Nat.le_of_eq rfl) (hb hby d_prog_14_method_15_code_27) (fun _ _ => ⟨rfl, eT, (by decide : 0 + 0 ≤ _), (by decide : 0 + 0 ≤ _)⟩)
          dsimp only [Pt.U, Pt.locs, Pt.cells, Pt.slots] at X17 l17 y17 z17 st17 hQ17
          subst l17 y17 z17
          obtain ⟨rfl, Lq17, eq17⟩ := hQ17
          have c18 : Steps p.tables e below S0 (T17.setTop (mkF m 30 #[.val (.ref x), .val (.int (Int32.ofNat a)), .val (.int (Int32.ofNat b)), .val (.int nm), .val (.int (Int32.ofNat k)), o] [(.int (cs.getD k 0))])) := c15.trans (st17)
          have N17 := Fr.app NN (Lq17 ▸ Fr.nil n0)
          have c19 : Steps p.tables e below S0 (T17.setTop (mkF m 36 #[.val (.ref x), .val (.int (Int32.ofNat a)), .val (.int (Int32.ofNat b)), .val (.int nm), .val (.int (Int32.ofNat k)), .val (.int (cs.getD k 0))] [(.int (97 : Int32)), (.int (cs.getD k 0))])) := c18.trans (by
            show Steps p.tables e below (T17.setTop (mkF m 30 #[.val (.ref x), .val (.int (Int32.ofNat a)), .val (.int (Int32.ofNat b)), .val (.int nm), .val (.int (Int32.ofNat k)), o] [(.int (cs.getD k 0))])) _
            refine XS.istoreS X17.here hx rfl (hb hby d_prog_14_method_15_code_30) rfl rfl ho ?_
            show Steps p.tables e below (T17.setTop (mkF m 32 #[.val (.ref x), .val (.int (Int32.ofNat a)), .val (.int (Int32.ofNat b)), .val (.int nm), .val (.int (Int32.ofNat k)), .val (.int (cs.getD k 0))] [])) _
            refine XS.iload X17.here hx rfl (hb hby d_prog_14_method_15_code_32) rfl ?_
            show Steps p.tables e below (T17.setTop (mkF m 34 #[.val (.ref x), .val (.int (Int32.ofNat a)), .val (.int (Int32.ofNat b)), .val (.int nm), .val (.int (Int32.ofNat k)), .val (.int (cs.getD k 0))] [(.int (cs.getD k 0))])) _
            refine XS.bipush X17.here hx rfl (hb hby d_prog_14_method_15_code_34) ?_
            exact Steps.refl _)
          obtain ⟨nx, hnx, c43⟩ : ∃ (nx : Int32), nx = (if (cs.getD k 0) < (97 : Int32) then (if (cs.getD k 0) < (65 : Int32) then (if (cs.getD k 0) = (95 : Int32) then (1 : Int32) else (if (Int32.ofNat a) < (Int32.ofNat k) then (if (cs.getD k 0) < (48 : Int32) then (0 : Int32) else (if (57 : Int32) < (cs.getD k 0) then (0 : Int32) else (1 : Int32))) else (0 : Int32))) else (if (90 : Int32) < (cs.getD k 0) then (if (cs.getD k 0) = (95 : Int32) then (1 : Int32) else (if (Int32.ofNat a) < (Int32.ofNat k) then (if (cs.getD k 0) < (48 : Int32) then (0 : Int32) else (if (57 : Int32) < (cs.getD k 0) then (0 : Int32) else (1 : Int32))) else (0 : Int32))) else (1 : Int32))) else (if (122 : Int32) < (cs.getD k 0) then (if (cs.getD k 0) < (65 : Int32) then (if (cs.getD k 0) = (95 : Int32) then (1 : Int32) else (if (Int32.ofNat a) < (Int32.ofNat k) then (if (cs.getD k 0) < (48 : Int32) then (0 : Int32) else (if (57 : Int32) < (cs.getD k 0) then (0 : Int32) else (1 : Int32))) else (0 : Int32))) else (if (90 : Int32) < (cs.getD k 0) then (if (cs.getD k 0) = (95 : Int32) then (1 : Int32) else (if (Int32.ofNat a) < (Int32.ofNat k) then (if (cs.getD k 0) < (48 : Int32) then (0 : Int32) else (if (57 : Int32) < (cs.getD k 0) then (0 : Int32) else (1 : Int32))) else (0 : Int32))) else (1 : Int32))) else (1 : Int32))) ∧ Steps p.tables e below S0 (T17.setTop (mkF m 92 #[.val (.ref x), .val (.int (Int32.ofNat a)), .val (.int (Int32.ofNat b)), .val (.int nm), .val (.int (Int32.ofNat k)), .val (.int (cs.getD k 0))] [(.int nx)])) := by
            by_cases hq20 : (cs.getD k 0) < (97 : Int32)
            · by_cases hq21 : (cs.getD k 0) < (65 : Int32)
              · by_cases hq22 : (cs.getD k 0) = (95 : Int32)
                · exact ⟨_, (by rw [if_pos hq20, if_pos hq21, if_pos hq22]), c19.trans (by
                    show Steps p.tables e below (T17.setTop (mkF m 36 #[.val (.ref x), .val (.int (Int32.ofNat a)), .val (.int (Int32.ofNat b)), .val (.int nm), .val (.int (Int32.ofNat k)), .val (.int (cs.getD k 0))] [(.int (97 : Int32)), (.int (cs.getD k 0))])) _
                    refine XS.icmpYes X17.here hx rfl (pc0 := 36) (pc' := 46) rfl (hb hby d_prog_14_method_15_code_36) rfl (tlt hq20).1 (by decide) (by decide) ?_
                    show Steps p.tables e below (T17.setTop (mkF m 46 #[.val (.ref x), .val (.int (Int32.ofNat a)), .val (.int (Int32.ofNat b)), .val (.int nm), .val (.int (Int32.ofNat k)), .val (.int (cs.getD k 0))] [])) _
                    refine XS.iload X17.here hx rfl (hb hby d_prog_14_method_15_code_46) rfl ?_
                    show Steps p.tables e below (T17.setTop (mkF m 48 #[.val (.ref x), .val (.int (Int32.ofNat a)), .val (.int (Int32.ofNat b)), .val (.int nm), .val (.int (Int32.ofNat k)), .val (.int (cs.getD k 0))] [(.int (cs.getD k 0))])) _
                    refine XS.bipush X17.here hx rfl (hb hby d_prog_14_method_15_code_48) ?_
                    show Steps p.tables e below (T17.setTop (mkF m 50 #[.val (.ref x), .val (.int (Int32.ofNat a)), .val (.int (Int32.ofNat b)), .val (.int nm), .val (.int (Int32.ofNat k)), .val (.int (cs.getD k 0))] [(.int (65 : Int32)), (.int (cs.getD k 0))])) _
                    refine XS.icmpYes X17.here hx rfl (pc0 := 50) (pc' := 60) rfl (hb hby d_prog_14_method_15_code_50) rfl (tlt hq21).1 (by decide) (by decide) ?_
                    show Steps p.tables e below (T17.setTop (mkF m 60 #[.val (.ref x), .val (.int (Int32.ofNat a)), .val (.int (Int32.ofNat b)), .val (.int nm), .val (.int (Int32.ofNat k)), .val (.int (cs.getD k 0))] [])) _
                    refine XS.iload X17.here hx rfl (hb hby d_prog_14_method_15_code_60) rfl ?_
                    show Steps p.tables e below (T17.setTop (mkF m 62 #[.val (.ref x), .val (.int (Int32.ofNat a)), .val (.int (Int32.ofNat b)), .val (.int nm), .val (.int (Int32.ofNat k)), .val (.int (cs.getD k 0))] [(.int (cs.getD k 0))])) _
                    refine XS.bipush X17.here hx rfl (hb hby d_prog_14_method_15_code_62) ?_
                    show Steps p.tables e below (T17.setTop (mkF m 64 #[.val (.ref x), .val (.int (Int32.ofNat a)), .val (.int (Int32.ofNat b)), .val (.int nm), .val (.int (Int32.ofNat k)), .val (.int (cs.getD k 0))] [(.int (95 : Int32)), (.int (cs.getD k 0))])) _
                    refine XS.icmpYes X17.here hx rfl (pc0 := 64) (pc' := 87) rfl (hb hby d_prog_14_method_15_code_64) rfl (teq hq22).1 (by decide) (by decide) ?_
                    show Steps p.tables e below (T17.setTop (mkF m 87 #[.val (.ref x), .val (.int (Int32.ofNat a)), .val (.int (Int32.ofNat b)), .val (.int nm), .val (.int (Int32.ofNat k)), .val (.int (cs.getD k 0))] [])) _
                    refine XS.iconst X17.here hx rfl (hb hby d_prog_14_method_15_code_87) ?_
                    show Steps p.tables e below (T17.setTop (mkF m 88 #[.val (.ref x), .val (.int (Int32.ofNat a)), .val (.int (Int32.ofNat b)), .val (.int nm), .val (.int (Int32.ofNat k)), .val (.int (cs.getD k 0))] [(.int (1 : Int32))])) _
                    refine XS.goto X17.here hx rfl (pc0 := 88) (pc' := 92) rfl (hb hby d_prog_14_method_15_code_88) (by decide) (by decide) ?_
                    exact Steps.refl _)⟩
                · by_cases hq23 : (Int32.ofNat a) < (Int32.ofNat k)
                  · by_cases hq24 : (cs.getD k 0) < (48 : Int32)
                    · exact ⟨_, (by rw [if_pos hq20, if_pos hq21, if_neg hq22, if_pos hq23, if_pos hq24]), c19.trans (by
                        show Steps p.tables e below (T17.setTop (mkF m 36 #[.val (.ref x), .val (.int (Int32.ofNat a)), .val (.int (Int32.ofNat b)), .val (.int nm), .val (.int (Int32.ofNat k)), .val (.int (cs.getD k 0))] [(.int (97 : Int32)), (.int (cs.getD k 0))])) _
                        refine XS.icmpYes X17.here hx rfl (pc0 := 36) (pc' := 46) rfl (hb hby d_prog_14_method_15_code_36) rfl (tlt hq20).1 (by decide) (by decide) ?_
                        show Steps p.tables e below (T17.setTop (mkF m 46 #[.val (.ref x), .val (.int (Int32.ofNat a)), .val (.int (Int32.ofNat b)), .val (.int nm), .val (.int (Int32.ofNat k)), .val (.int (cs.getD k 0))] [])) _
                        refine XS.iload X17.here hx rfl (hb hby d_prog_14_method_15_code_46) rfl ?_
                        show Steps p.tables e below (T17.setTop (mkF m 48 #[.val (.ref x), .val (.int (Int32.ofNat a)), .val (.int (Int32.ofNat b)), .val (.int nm), .val (.int (Int32.ofNat k)), .val (.int (cs.getD k 0))] [(.int (cs.getD k 0))])) _
                        refine XS.bipush X17.here hx rfl (hb hby d_prog_14_method_15_code_48) ?_
                        show Steps p.tables e below (T17.setTop (mkF m 50 #[.val (.ref x), .val (.int (Int32.ofNat a)), .val (.int (Int32.ofNat b)), .val (.int nm), .val (.int (Int32.ofNat k)), .val (.int (cs.getD k 0))] [(.int (65 : Int32)), (.int (cs.getD k 0))])) _
                        refine XS.icmpYes X17.here hx rfl (pc0 := 50) (pc' := 60) rfl (hb hby d_prog_14_method_15_code_50) rfl (tlt hq21).1 (by decide) (by decide) ?_
                        show Steps p.tables e below (T17.setTop (mkF m 60 #[.val (.ref x), .val (.int (Int32.ofNat a)), .val (.int (Int32.ofNat b)), .val (.int nm), .val (.int (Int32.ofNat k)), .val (.int (cs.getD k 0))] [])) _
                        refine XS.iload X17.here hx rfl (hb hby d_prog_14_method_15_code_60) rfl ?_
                        show Steps p.tables e below (T17.setTop (mkF m 62 #[.val (.ref x), .val (.int (Int32.ofNat a)), .val (.int (Int32.ofNat b)), .val (.int nm), .val (.int (Int32.ofNat k)), .val (.int (cs.getD k 0))] [(.int (cs.getD k 0))])) _
                        refine XS.bipush X17.here hx rfl (hb hby d_prog_14_method_15_code_62) ?_
                        show Steps p.tables e below (T17.setTop (mkF m 64 #[.val (.ref x), .val (.int (Int32.ofNat a)), .val (.int (Int32.ofNat b)), .val (.int nm), .val (.int (Int32.ofNat k)), .val (.int (cs.getD k 0))] [(.int (95 : Int32)), (.int (cs.getD k 0))])) _
                        refine XS.icmpNo X17.here hx rfl (hb hby d_prog_14_method_15_code_64) rfl (feq hq22).1 ?_
                        show Steps p.tables e below (T17.setTop (mkF m 67 #[.val (.ref x), .val (.int (Int32.ofNat a)), .val (.int (Int32.ofNat b)), .val (.int nm), .val (.int (Int32.ofNat k)), .val (.int (cs.getD k 0))] [])) _
                        refine XS.iload X17.here hx rfl (hb hby d_prog_14_method_15_code_67) rfl ?_
                        show Steps p.tables e below (T17.setTop (mkF m 69 #[.val (.ref x), .val (.int (Int32.ofNat a)), .val (.int (Int32.ofNat b)), .val (.int nm), .val (.int (Int32.ofNat k)), .val (.int (cs.getD k 0))] [(.int (Int32.ofNat k))])) _
                        refine XS.iloadN X17.here hx rfl (hb hby d_prog_14_method_15_code_69) rfl ?_
                        show Steps p.tables e below (T17.setTop (mkF m 70 #[.val (.ref x), .val (.int (Int32.ofNat a)), .val (.int (Int32.ofNat b)), .val (.int nm), .val (.int (Int32.ofNat k)), .val (.int (cs.getD k 0))] [(.int (Int32.ofNat a)), (.int (Int32.ofNat k))])) _
                        refine XS.icmpNo X17.here hx rfl (hb hby d_prog_14_method_15_code_70) rfl (tlt hq23).2.2.2 ?_
                        show Steps p.tables e below (T17.setTop (mkF m 73 #[.val (.ref x), .val (.int (Int32.ofNat a)), .val (.int (Int32.ofNat b)), .val (.int nm), .val (.int (Int32.ofNat k)), .val (.int (cs.getD k 0))] [])) _
                        refine XS.iload X17.here hx rfl (hb hby d_prog_14_method_15_code_73) rfl ?_
                        show Steps p.tables e below (T17.setTop (mkF m 75 #[.val (.ref x), .val (.int (Int32.ofNat a)), .val (.int (Int32.ofNat b)), .val (.int nm), .val (.int (Int32.ofNat k)), .val (.int (cs.getD k 0))] [(.int (cs.getD k 0))])) _
                        refine XS.bipush X17.here hx rfl (hb hby d_prog_14_method_15_code_75) ?_
                        show Steps p.tables e below (T17.setTop (mkF m 77 #[.val (.ref x), .val (.int (Int32.ofNat a)), .val (.int (Int32.ofNat b)), .val (.int nm), .val (.int (Int32.ofNat k)), .val (.int (cs.getD k 0))] [(.int (48 : Int32)), (.int (cs.getD k 0))])) _
                        refine XS.icmpYes X17.here hx rfl (pc0 := 77) (pc' := 91) rfl (hb hby d_prog_14_method_15_code_77) rfl (tlt hq24).1 (by decide) (by decide) ?_
                        show Steps p.tables e below (T17.setTop (mkF m 91 #[.val (.ref x), .val (.int (Int32.ofNat a)), .val (.int (Int32.ofNat b)), .val (.int nm), .val (.int (Int32.ofNat k)), .val (.int (cs.getD k 0))] [])) _
                        refine XS.iconst X17.here hx rfl (hb hby d_prog_14_method_15_code_91) ?_
                        exact Steps.refl _)⟩
                    · by_cases hq25 : (57 : Int32) < (cs.getD k 0)
                      · exact ⟨_, (by rw [if_pos hq20, if_pos hq21, if_neg hq22, if_pos hq23, if_neg hq24, if_pos hq25]), c19.trans (by
                          show Steps p.tables e below (T17.setTop (mkF m 36 #[.val (.ref x), .val (.int (Int32.ofNat a)), .val (.int (Int32.ofNat b)), .val (.int nm), .val (.int (Int32.ofNat k)), .val (.int (cs.getD k 0))] [(.int (97 : Int32)), (.int (cs.getD k 0))])) _
                          refine XS.icmpYes X17.here hx rfl (pc0 := 36) (pc' := 46) rfl (hb hby d_prog_14_method_15_code_36) rfl (tlt hq20).1 (by decide) (by decide) ?_
                          show Steps p.tables e below (T17.setTop (mkF m 46 #[.val (.ref x), .val (.int (Int32.ofNat a)), .val (.int (Int32.ofNat b)), .val (.int nm), .val (.int (Int32.ofNat k)), .val (.int (cs.getD k 0))] [])) _
                          refine XS.iload X17.here hx rfl (hb hby d_prog_14_method_15_code_46) rfl ?_
                          show Steps p.tables e below (T17.setTop (mkF m 48 #[.val (.ref x), .val (.int (Int32.ofNat a)), .val (.int (Int32.ofNat b)), .val (.int nm), .val (.int (Int32.ofNat k)), .val (.int (cs.getD k 0))] [(.int (cs.getD k 0))])) _
                          refine XS.bipush X17.here hx rfl (hb hby d_prog_14_method_15_code_48) ?_
                          show Steps p.tables e below (T17.setTop (mkF m 50 #[.val (.ref x), .val (.int (Int32.ofNat a)), .val (.int (Int32.ofNat b)), .val (.int nm), .val (.int (Int32.ofNat k)), .val (.int (cs.getD k 0))] [(.int (65 : Int32)), (.int (cs.getD k 0))])) _
                          refine XS.icmpYes X17.here hx rfl (pc0 := 50) (pc' := 60) rfl (hb hby d_prog_14_method_15_code_50) rfl (tlt hq21).1 (by decide) (by decide) ?_
                          show Steps p.tables e below (T17.setTop (mkF m 60 #[.val (.ref x), .val (.int (Int32.ofNat a)), .val (.int (Int32.ofNat b)), .val (.int nm), .val (.int (Int32.ofNat k)), .val (.int (cs.getD k 0))] [])) _
                          refine XS.iload X17.here hx rfl (hb hby d_prog_14_method_15_code_60) rfl ?_
                          show Steps p.tables e below (T17.setTop (mkF m 62 #[.val (.ref x), .val (.int (Int32.ofNat a)), .val (.int (Int32.ofNat b)), .val (.int nm), .val (.int (Int32.ofNat k)), .val (.int (cs.getD k 0))] [(.int (cs.getD k 0))])) _
                          refine XS.bipush X17.here hx rfl (hb hby d_prog_14_method_15_code_62) ?_
                          show Steps p.tables e below (T17.setTop (mkF m 64 #[.val (.ref x), .val (.int (Int32.ofNat a)), .val (.int (Int32.ofNat b)), .val (.int nm), .val (.int (Int32.ofNat k)), .val (.int (cs.getD k 0))] [(.int (95 : Int32)), (.int (cs.getD k 0))])) _
                          refine XS.icmpNo X17.here hx rfl (hb hby d_prog_14_method_15_code_64) rfl (feq hq22).1 ?_
                          show Steps p.tables e below (T17.setTop (mkF m 67 #[.val (.ref x), .val (.int (Int32.ofNat a)), .val (.int (Int32.ofNat b)), .val (.int nm), .val (.int (Int32.ofNat k)), .val (.int (cs.getD k 0))] [])) _
                          refine XS.iload X17.here hx rfl (hb hby d_prog_14_method_15_code_67) rfl ?_
                          show Steps p.tables e below (T17.setTop (mkF m 69 #[.val (.ref x), .val (.int (Int32.ofNat a)), .val (.int (Int32.ofNat b)), .val (.int nm), .val (.int (Int32.ofNat k)), .val (.int (cs.getD k 0))] [(.int (Int32.ofNat k))])) _
                          refine XS.iloadN X17.here hx rfl (hb hby d_prog_14_method_15_code_69) rfl ?_
                          show Steps p.tables e below (T17.setTop (mkF m 70 #[.val (.ref x), .val (.int (Int32.ofNat a)), .val (.int (Int32.ofNat b)), .val (.int nm), .val (.int (Int32.ofNat k)), .val (.int (cs.getD k 0))] [(.int (Int32.ofNat a)), (.int (Int32.ofNat k))])) _
                          refine XS.icmpNo X17.here hx rfl (hb hby d_prog_14_method_15_code_70) rfl (tlt hq23).2.2.2 ?_
                          show Steps p.tables e below (T17.setTop (mkF m 73 #[.val (.ref x), .val (.int (Int32.ofNat a)), .val (.int (Int32.ofNat b)), .val (.int nm), .val (.int (Int32.ofNat k)), .val (.int (cs.getD k 0))] [])) _
                          refine XS.iload X17.here hx rfl (hb hby d_prog_14_method_15_code_73) rfl ?_
                          show Steps p.tables e below (T17.setTop (mkF m 75 #[.val (.ref x), .val (.int (Int32.ofNat a)), .val (.int (Int32.ofNat b)), .val (.int nm), .val (.int (Int32.ofNat k)), .val (.int (cs.getD k 0))] [(.int (cs.getD k 0))])) _
                          refine XS.bipush X17.here hx rfl (hb hby d_prog_14_method_15_code_75) ?_
                          show Steps p.tables e below (T17.setTop (mkF m 77 #[.val (.ref x), .val (.int (Int32.ofNat a)), .val (.int (Int32.ofNat b)), .val (.int nm), .val (.int (Int32.ofNat k)), .val (.int (cs.getD k 0))] [(.int (48 : Int32)), (.int (cs.getD k 0))])) _
                          refine XS.icmpNo X17.here hx rfl (hb hby d_prog_14_method_15_code_77) rfl (flt hq24).1 ?_
                          show Steps p.tables e below (T17.setTop (mkF m 80 #[.val (.ref x), .val (.int (Int32.ofNat a)), .val (.int (Int32.ofNat b)), .val (.int nm), .val (.int (Int32.ofNat k)), .val (.int (cs.getD k 0))] [])) _
                          refine XS.iload X17.here hx rfl (hb hby d_prog_14_method_15_code_80) rfl ?_
                          show Steps p.tables e below (T17.setTop (mkF m 82 #[.val (.ref x), .val (.int (Int32.ofNat a)), .val (.int (Int32.ofNat b)), .val (.int nm), .val (.int (Int32.ofNat k)), .val (.int (cs.getD k 0))] [(.int (cs.getD k 0))])) _
                          refine XS.bipush X17.here hx rfl (hb hby d_prog_14_method_15_code_82) ?_
                          show Steps p.tables e below (T17.setTop (mkF m 84 #[.val (.ref x), .val (.int (Int32.ofNat a)), .val (.int (Int32.ofNat b)), .val (.int nm), .val (.int (Int32.ofNat k)), .val (.int (cs.getD k 0))] [(.int (57 : Int32)), (.int (cs.getD k 0))])) _
                          refine XS.icmpYes X17.here hx rfl (pc0 := 84) (pc' := 91) rfl (hb hby d_prog_14_method_15_code_84) rfl (tlt hq25).2.2.1 (by decide) (by decide) ?_
                          show Steps p.tables e below (T17.setTop (mkF m 91 #[.val (.ref x), .val (.int (Int32.ofNat a)), .val (.int (Int32.ofNat b)), .val (.int nm), .val (.int (Int32.ofNat k)), .val (.int (cs.getD k 0))] [])) _
                          refine XS.iconst X17.here hx rfl (hb hby d_prog_14_method_15_code_91) ?_
                          exact Steps.refl _)⟩
                      · exact ⟨_, (by rw [if_pos hq20, if_pos hq21, if_neg hq22, if_pos hq23, if_neg hq24, if_neg hq25]), c19.trans (by
                          show Steps p.tables e below (T17.setTop (mkF m 36 #[.val (.ref x), .val (.int (Int32.ofNat a)), .val (.int (Int32.ofNat b)), .val (.int nm), .val (.int (Int32.ofNat k)), .val (.int (cs.getD k 0))] [(.int (97 : Int32)), (.int (cs.getD k 0))])) _
                          refine XS.icmpYes X17.here hx rfl (pc0 := 36) (pc' := 46) rfl (hb hby d_prog_14_method_15_code_36) rfl (tlt hq20).1 (by decide) (by decide) ?_
                          show Steps p.tables e below (T17.setTop (mkF m 46 #[.val (.ref x), .val (.int (Int32.ofNat a)), .val (.int (Int32.ofNat b)), .val (.int nm), .val (.int (Int32.ofNat k)), .val (.int (cs.getD k 0))] [])) _
                          refine XS.iload X17.here hx rfl (hb hby d_prog_14_method_15_code_46) rfl ?_
                          show Steps p.tables e below (T17.setTop (mkF m 48 #[.val (.ref x), .val (.int (Int32.ofNat a)), .val (.int (Int32.ofNat b)), .val (.int nm), .val (.int (Int32.ofNat k)), .val (.int (cs.getD k 0))] [(.int (cs.getD k 0))])) _
                          refine XS.bipush X17.here hx rfl (hb hby d_prog_14_method_15_code_48) ?_
                          show Steps p.tables e below (T17.setTop (mkF m 50 #[.val (.ref x), .val (.int (Int32.ofNat a)), .val (.int (Int32.ofNat b)), .val (.int nm), .val (.int (Int32.ofNat k)), .val (.int (cs.getD k 0))] [(.int (65 : Int32)), (.int (cs.getD k 0))])) _
                          refine XS.icmpYes X17.here hx rfl (pc0 := 50) (pc' := 60) rfl (hb hby d_prog_14_method_15_code_50) rfl (tlt hq21).1 (by decide) (by decide) ?_
                          show Steps p.tables e below (T17.setTop (mkF m 60 #[.val (.ref x), .val (.int (Int32.ofNat a)), .val (.int (Int32.ofNat b)), .val (.int nm), .val (.int (Int32.ofNat k)), .val (.int (cs.getD k 0))] [])) _
                          refine XS.iload X17.here hx rfl (hb hby d_prog_14_method_15_code_60) rfl ?_
                          show Steps p.tables e below (T17.setTop (mkF m 62 #[.val (.ref x), .val (.int (Int32.ofNat a)), .val (.int (Int32.ofNat b)), .val (.int nm), .val (.int (Int32.ofNat k)), .val (.int (cs.getD k 0))] [(.int (cs.getD k 0))])) _
                          refine XS.bipush X17.here hx rfl (hb hby d_prog_14_method_15_code_62) ?_
                          show Steps p.tables e below (T17.setTop (mkF m 64 #[.val (.ref x), .val (.int (Int32.ofNat a)), .val (.int (Int32.ofNat b)), .val (.int nm), .val (.int (Int32.ofNat k)), .val (.int (cs.getD k 0))] [(.int (95 : Int32)), (.int (cs.getD k 0))])) _
                          refine XS.icmpNo X17.here hx rfl (hb hby d_prog_14_method_15_code_64) rfl (feq hq22).1 ?_
                          show Steps p.tables e below (T17.setTop (mkF m 67 #[.val (.ref x), .val (.int (Int32.ofNat a)), .val (.int (Int32.ofNat b)), .val (.int nm), .val (.int (Int32.ofNat k)), .val (.int (cs.getD k 0))] [])) _
                          refine XS.iload X17.here hx rfl (hb hby d_prog_14_method_15_code_67) rfl ?_
                          show Steps p.tables e below (T17.setTop (mkF m 69 #[.val (.ref x), .val (.int (Int32.ofNat a)), .val (.int (Int32.ofNat b)), .val (.int nm), .val (.int (Int32.ofNat k)), .val (.int (cs.getD k 0))] [(.int (Int32.ofNat k))])) _
                          refine XS.iloadN X17.here hx rfl (hb hby d_prog_14_method_15_code_69) rfl ?_
                          show Steps p.tables e below (T17.setTop (mkF m 70 #[.val (.ref x), .val (.int (Int32.ofNat a)), .val (.int (Int32.ofNat b)), .val (.int nm), .val (.int (Int32.ofNat k)), .val (.int (cs.getD k 0))] [(.int (Int32.ofNat a)), (.int (Int32.ofNat k))])) _
                          refine XS.icmpNo X17.here hx rfl (hb hby d_prog_14_method_15_code_70) rfl (tlt hq23).2.2.2 ?_
                          show Steps p.tables e below (T17.setTop (mkF m 73 #[.val (.ref x), .val (.int (Int32.ofNat a)), .val (.int (Int32.ofNat b)), .val (.int nm), .val (.int (Int32.ofNat k)), .val (.int (cs.getD k 0))] [])) _
                          refine XS.iload X17.here hx rfl (hb hby d_prog_14_method_15_code_73) rfl ?_
                          show Steps p.tables e below (T17.setTop (mkF m 75 #[.val (.ref x), .val (.int (Int32.ofNat a)), .val (.int (Int32.ofNat b)), .val (.int nm), .val (.int (Int32.ofNat k)), .val (.int (cs.getD k 0))] [(.int (cs.getD k 0))])) _
                          refine XS.bipush X17.here hx rfl (hb hby d_prog_14_method_15_code_75) ?_
                          show Steps p.tables e below (T17.setTop (mkF m 77 #[.val (.ref x), .val (.int (Int32.ofNat a)), .val (.int (Int32.ofNat b)), .val (.int nm), .val (.int (Int32.ofNat k)), .val (.int (cs.getD k 0))] [(.int (48 : Int32)), (.int (cs.getD k 0))])) _
                          refine XS.icmpNo X17.here hx rfl (hb hby d_prog_14_method_15_code_77) rfl (flt hq24).1 ?_
                          show Steps p.tables e below (T17.setTop (mkF m 80 #[.val (.ref x), .val (.int (Int32.ofNat a)), .val (.int (Int32.ofNat b)), .val (.int nm), .val (.int (Int32.ofNat k)), .val (.int (cs.getD k 0))] [])) _
                          refine XS.iload X17.here hx rfl (hb hby d_prog_14_method_15_code_80) rfl ?_
                          show Steps p.tables e below (T17.setTop (mkF m 82 #[.val (.ref x), .val (.int (Int32.ofNat a)), .val (.int (Int32.ofNat b)), .val (.int nm), .val (.int (Int32.ofNat k)), .val (.int (cs.getD k 0))] [(.int (cs.getD k 0))])) _
                          refine XS.bipush X17.here hx rfl (hb hby d_prog_14_method_15_code_82) ?_
                          show Steps p.tables e below (T17.setTop (mkF m 84 #[.val (.ref x), .val (.int (Int32.ofNat a)), .val (.int (Int32.ofNat b)), .val (.int nm), .val (.int (Int32.ofNat k)), .val (.int (cs.getD k 0))] [(.int (57 : Int32)), (.int (cs.getD k 0))])) _
                          refine XS.icmpNo X17.here hx rfl (hb hby d_prog_14_method_15_code_84) rfl (flt hq25).2.2.1 ?_
                          show Steps p.tables e below (T17.setTop (mkF m 87 #[.val (.ref x), .val (.int (Int32.ofNat a)), .val (.int (Int32.ofNat b)), .val (.int nm), .val (.int (Int32.ofNat k)), .val (.int (cs.getD k 0))] [])) _
                          refine XS.iconst X17.here hx rfl (hb hby d_prog_14_method_15_code_87) ?_
                          show Steps p.tables e below (T17.setTop (mkF m 88 #[.val (.ref x), .val (.int (Int32.ofNat a)), .val (.int (Int32.ofNat b)), .val (.int nm), .val (.int (Int32.ofNat k)), .val (.int (cs.getD k 0))] [(.int (1 : Int32))])) _
                          refine XS.goto X17.here hx rfl (pc0 := 88) (pc' := 92) rfl (hb hby d_prog_14_method_15_code_88) (by decide) (by decide) ?_
                          exact Steps.refl _)⟩
                  · exact ⟨_, (by rw [if_pos hq20, if_pos hq21, if_neg hq22, if_neg hq23]), c19.trans (by
                      show Steps p.tables e below (T17.setTop (mkF m 36 #[.val (.ref x), .val (.int (Int32.ofNat a)), .val (.int (Int32.ofNat b)), .val (.int nm), .val (.int (Int32.ofNat k)), .val (.int (cs.getD k 0))] [(.int (97 : Int32)), (.int (cs.getD k 0))])) _
                      refine XS.icmpYes X17.here hx rfl (pc0 := 36) (pc' := 46) rfl (hb hby d_prog_14_method_15_code_36) rfl (tlt hq20).1 (by decide) (by decide) ?_
                      show Steps p.tables e below (T17.setTop (mkF m 46 #[.val (.ref x), .val (.int (Int32.ofNat a)), .val (.int (Int32.ofNat b)), .val (.int nm), .val (.int (Int32.ofNat k)), .val (.int (cs.getD k 0))] [])) _
                      refine XS.iload X17.here hx rfl (hb hby d_prog_14_method_15_code_46) rfl ?_
                      show Steps p.tables e below (T17.setTop (mkF m 48 #[.val (.ref x), .val (.int (Int32.ofNat a)), .val (.int (Int32.ofNat b)), .val (.int nm), .val (.int (Int32.ofNat k)), .val (.int (cs.getD k 0))] [(.int (cs.getD k 0))])) _
                      refine XS.bipush X17.here hx rfl (hb hby d_prog_14_method_15_code_48) ?_
                      show Steps p.tables e below (T17.setTop (mkF m 50 #[.val (.ref x), .val (.int (Int32.ofNat a)), .val (.int (Int32.ofNat b)), .val (.int nm), .val (.int (Int32.ofNat k)), .val (.int (cs.getD k 0))] [(.int (65 : Int32)), (.int (cs.getD k 0))])) _
                      refine XS.icmpYes X17.here hx rfl (pc0 := 50) (pc' := 60) rfl (hb hby d_prog_14_method_15_code_50) rfl (tlt hq21).1 (by decide) (by decide) ?_
                      show Steps p.tables e below (T17.setTop (mkF m 60 #[.val (.ref x), .val (.int (Int32.ofNat a)), .val (.int (Int32.ofNat b)), .val (.int nm), .val (.int (Int32.ofNat k)), .val (.int (cs.getD k 0))] [])) _
                      refine XS.iload X17.here hx rfl (hb hby d_prog_14_method_15_code_60) rfl ?_
                      show Steps p.tables e below (T17.setTop (mkF m 62 #[.val (.ref x), .val (.int (Int32.ofNat a)), .val (.int (Int32.ofNat b)), .val (.int nm), .val (.int (Int32.ofNat k)), .val (.int (cs.getD k 0))] [(.int (cs.getD k 0))])) _
                      refine XS.bipush X17.here hx rfl (hb hby d_prog_14_method_15_code_62) ?_
                      show Steps p.tables e below (T17.setTop (mkF m 64 #[.val (.ref x), .val (.int (Int32.ofNat a)), .val (.int (Int32.ofNat b)), .val (.int nm), .val (.int (Int32.ofNat k)), .val (.int (cs.getD k 0))] [(.int (95 : Int32)), (.int (cs.getD k 0))])) _
                      refine XS.icmpNo X17.here hx rfl (hb hby d_prog_14_method_15_code_64) rfl (feq hq22).1 ?_
                      show Steps p.tables e below (T17.setTop (mkF m 67 #[.val (.ref x), .val (.int (Int32.ofNat a)), .val (.int (Int32.ofNat b)), .val (.int nm), .val (.int (Int32.ofNat k)), .val (.int (cs.getD k 0))] [])) _
                      refine XS.iload X17.here hx rfl (hb hby d_prog_14_method_15_code_67) rfl ?_
                      show Steps p.tables e below (T17.setTop (mkF m 69 #[.val (.ref x), .val (.int (Int32.ofNat a)), .val (.int (Int32.ofNat b)), .val (.int nm), .val (.int (Int32.ofNat k)), .val (.int (cs.getD k 0))] [(.int (Int32.ofNat k))])) _
                      refine XS.iloadN X17.here hx rfl (hb hby d_prog_14_method_15_code_69) rfl ?_
                      show Steps p.tables e below (T17.setTop (mkF m 70 #[.val (.ref x), .val (.int (Int32.ofNat a)), .val (.int (Int32.ofNat b)), .val (.int nm), .val (.int (Int32.ofNat k)), .val (.int (cs.getD k 0))] [(.int (Int32.ofNat a)), (.int (Int32.ofNat k))])) _
                      refine XS.icmpYes X17.here hx rfl (pc0 := 70) (pc' := 91) rfl (hb hby d_prog_14_method_15_code_70) rfl (flt hq23).2.2.2 (by decide) (by decide) ?_
                      show Steps p.tables e below (T17.setTop (mkF m 91 #[.val (.ref x), .val (.int (Int32.ofNat a)), .val (.int (Int32.ofNat b)), .val (.int nm), .val (.int (Int32.ofNat k)), .val (.int (cs.getD k 0))] [])) _
                      refine XS.iconst X17.here hx rfl (hb hby d_prog_14_method_15_code_91) ?_
                      exact Steps.refl _)⟩
              · by_cases hq26 : (90 : Int32) < (cs.getD k 0)
                · by_cases hq27 : (cs.getD k 0) = (95 : Int32)
                  · exact ⟨_, (by rw [if_pos hq20, if_neg hq21, if_pos hq26, if_pos hq27]), c19.trans (by
                      show Steps p.tables e below (T17.setTop (mkF m 36 #[.val (.ref x), .val (.int (Int32.ofNat a)), .val (.int (Int32.ofNat b)), .val (.int nm), .val (.int (Int32.ofNat k)), .val (.int (cs.getD k 0))] [(.int (97 : Int32)), (.int (cs.getD k 0))])) _
                      refine XS.icmpYes X17.here hx rfl (pc0 := 36) (pc' := 46) rfl (hb hby d_prog_14_method_15_code_36) rfl (tlt hq20).1 (by decide) (by decide) ?_
                      show Steps p.tables e below (T17.setTop (mkF m 46 #[.val (.ref x), .val (.int (Int32.ofNat a)), .val (.int (Int32.ofNat b)), .val (.int nm), .val (.int (Int32.ofNat k)), .val (.int (cs.getD k 0))] [])) _
                      refine XS.iload X17.here hx rfl (hb hby d_prog_14_method_15_code_46) rfl ?_
                      show Steps p.tables e below (T17.setTop (mkF m 48 #[.val (.ref x), .val (.int (Int32.ofNat a)), .val (.int (Int32.ofNat b)), .val (.int nm), .val (.int (Int32.ofNat k)), .val (.int (cs.getD k 0))] [(.int (cs.getD k 0))])) _
                      refine XS.bipush X17.here hx rfl (hb hby d_prog_14_method_15_code_48) ?_
                      show Steps p.tables e below (T17.setTop (mkF m 50 #[.val (.ref x), .val (.int (Int32.ofNat a)), .val (.int (Int32.ofNat b)), .val (.int nm), .val (.int (Int32.ofNat k)), .val (.int (cs.getD k 0))] [(.int (65 : Int32)), (.int (cs.getD k 0))])) _
                      refine XS.icmpNo X17.here hx rfl (hb hby d_prog_14_method_15_code_50) rfl (flt hq21).1 ?_
                      show Steps p.tables e below (T17.setTop (mkF m 53 #[.val (.ref x), .val (.int (Int32.ofNat a)), .val (.int (Int32.ofNat b)), .val (.int nm), .val (.int (Int32.ofNat k)), .val (.int (cs.getD k 0))] [])) _
                      refine XS.iload X17.here hx rfl (hb hby d_prog_14_method_15_code_53) rfl ?_
                      show Steps p.tables e below (T17.setTop (mkF m 55 #[.val (.ref x), .val (.int (Int32.ofNat a)), .val (.int (Int32.ofNat b)), .val (.int nm), .val (.int (Int32.ofNat k)), .val (.int (cs.getD k 0))] [(.int (cs.getD k 0))])) _
                      refine XS.bipush X17.here hx rfl (hb hby d_prog_14_method_15_code_55) ?_
                      show Steps p.tables e below (T17.setTop (mkF m 57 #[.val (.ref x), .val (.int (Int32.ofNat a)), .val (.int (Int32.ofNat b)), .val (.int nm), .val (.int (Int32.ofNat k)), .val (.int (cs.getD k 0))] [(.int (90 : Int32)), (.int (cs.getD k 0))])) _
                      refine XS.icmpNo X17.here hx rfl (hb hby d_prog_14_method_15_code_57) rfl (tlt hq26).2.2.2 ?_
                      show Steps p.tables e below (T17.setTop (mkF m 60 #[.val (.ref x), .val (.int (Int32.ofNat a)), .val (.int (Int32.ofNat b)), .val (.int nm), .val (.int (Int32.ofNat k)), .val (.int (cs.getD k 0))] [])) _
                      refine XS.iload X17.here hx rfl (hb hby d_prog_14_method_15_code_60) rfl ?_
                      show Steps p.tables e below (T17.setTop (mkF m 62 #[.val (.ref x), .val (.int (Int32.ofNat a)), .val (.int (Int32.ofNat b)), .val (.int nm), .val (.int (Int32.ofNat k)), .val (.int (cs.getD k 0))] [(.int (cs.getD k 0))])) _
                      refine XS.bipush X17.here hx rfl (hb hby d_prog_14_method_15_code_62) ?_
                      show Steps p.tables e below (T17.setTop (mkF m 64 #[.val (.ref x), .val (.int (Int32.ofNat a)), .val (.int (Int32.ofNat b)), .val (.int nm), .val (.int (Int32.ofNat k)), .val (.int (cs.getD k 0))] [(.int (95 : Int32)), (.int (cs.getD k 0))])) _
                      refine XS.icmpYes X17.here hx rfl (pc0 := 64) (pc' := 87) rfl (hb hby d_prog_14_method_15_code_64) rfl (teq hq27).1 (by decide) (by decide) ?_
                      show Steps p.tables e below (T17.setTop (mkF m 87 #[.val (.ref x), .val (.int (Int32.ofNat a)), .val (.int (Int32.ofNat b)), .val (.int nm), .val (.int (Int32.ofNat k)), .val (.int (cs.getD k 0))] [])) _
                      refine XS.iconst X17.here hx rfl (hb hby d_prog_14_method_15_code_87) ?_
                      show Steps p.tables e below (T17.setTop (mkF m 88 #[.val (.ref x), .val (.int (Int32.ofNat a)), .val (.int (Int32.ofNat b)), .val (.int nm), .val (.int (Int32.ofNat k)), .val (.int (cs.getD k 0))] [(.int (1 : Int32))])) _
                      refine XS.goto X17.here hx rfl (pc0 := 88) (pc' := 92) rfl (hb hby d_prog_14_method_15_code_88) (by decide) (by decide) ?_
                      exact Steps.refl _)⟩
                  · by_cases hq28 : (Int32.ofNat a) < (Int32.ofNat k)
                    · by_cases hq29 : (cs.getD k 0) < (48 : Int32)
                      · exact ⟨_, (by rw [if_pos hq20, if_neg hq21, if_pos hq26, if_neg hq27, if_pos hq28, if_pos hq29]), c19.trans (by
                          show Steps p.tables e below (T17.setTop (mkF m 36 #[.val (.ref x), .val (.int (Int32.ofNat a)), .val (.int (Int32.ofNat b)), .val (.int nm), .val (.int (Int32.ofNat k)), .val (.int (cs.getD k 0))] [(.int (97 : Int32)), (.int (cs.getD k 0))])) _
                          refine XS.icmpYes X17.here hx rfl (pc0 := 36) (pc' := 46) rfl (hb hby d_prog_14_method_15_code_36) rfl (tlt hq20).1 (by decide) (by decide) ?_
                          show Steps p.tables e below (T17.setTop (mkF m 46 #[.val (.ref x), .val (.int (Int32.ofNat a)), .val (.int (Int32.ofNat b)), .val (.int nm), .val (.int (Int32.ofNat k)), .val (.int (cs.getD k 0))] [])) _
                          refine XS.iload X17.here hx rfl (hb hby d_prog_14_method_15_code_46) rfl ?_
                          show Steps p.tables e below (T17.setTop (mkF m 48 #[.val (.ref x), .val (.int (Int32.ofNat a)), .val (.int (Int32.ofNat b)), .val (.int nm), .val (.int (Int32.ofNat k)), .val (.int (cs.getD k 0))] [(.int (cs.getD k 0))])) _
                          refine XS.bipush X17.here hx rfl (hb hby d_prog_14_method_15_code_48) ?_
                          show Steps p.tables e below (T17.setTop (mkF m 50 #[.val (.ref x), .val (.int (Int32.ofNat a)), .val (.int (Int32.ofNat b)), .val (.int nm), .val (.int (Int32.ofNat k)), .val (.int (cs.getD k 0))] [(.int (65 : Int32)), (.int (cs.getD k 0))])) _
                          refine XS.icmpNo X17.here hx rfl (hb hby d_prog_14_method_15_code_50) rfl (flt hq21).1 ?_
                          show Steps p.tables e below (T17.setTop (mkF m 53 #[.val (.ref x), .val (.int (Int32.ofNat a)), .val (.int (Int32.ofNat b)), .val (.int nm), .val (.int (Int32.ofNat k)), .val (.int (cs.getD k 0))] [])) _
                          refine XS.iload X17.here hx rfl (hb hby d_prog_14_method_15_code_53) rfl ?_
                          show Steps p.tables e below (T17.setTop (mkF m 55 #[.val (.ref x), .val (.int (Int32.ofNat a)), .val (.int (Int32.ofNat b)), .val (.int nm), .val (.int (Int32.ofNat k)), .val (.int (cs.getD k 0))] [(.int (cs.getD k 0))])) _
                          refine XS.bipush X17.here hx rfl (hb hby d_prog_14_method_15_code_55) ?_
                          show Steps p.tables e below (T17.setTop (mkF m 57 #[.val (.ref x), .val (.int (Int32.ofNat a)), .val (.int (Int32.ofNat b)), .val (.int nm), .val (.int (Int32.ofNat k)), .val (.int (cs.getD k 0))] [(.int (90 : Int32)), (.int (cs.getD k 0))])) _
                          refine XS.icmpNo X17.here hx rfl (hb hby d_prog_14_method_15_code_57) rfl (tlt hq26).2.2.2 ?_
                          show Steps p.tables e below (T17.setTop (mkF m 60 #[.val (.ref x), .val (.int (Int32.ofNat a)), .val (.int (Int32.ofNat b)), .val (.int nm), .val (.int (Int32.ofNat k)), .val (.int (cs.getD k 0))] [])) _
                          refine XS.iload X17.here hx rfl (hb hby d_prog_14_method_15_code_60) rfl ?_
                          show Steps p.tables e below (T17.setTop (mkF m 62 #[.val (.ref x), .val (.int (Int32.ofNat a)), .val (.int (Int32.ofNat b)), .val (.int nm), .val (.int (Int32.ofNat k)), .val (.int (cs.getD k 0))] [(.int (cs.getD k 0))])) _
                          refine XS.bipush X17.here hx rfl (hb hby d_prog_14_method_15_code_62) ?_
                          show Steps p.tables e below (T17.setTop (mkF m 64 #[.val (.ref x), .val (.int (Int32.ofNat a)), .val (.int (Int32.ofNat b)), .val (.int nm), .val (.int (Int32.ofNat k)), .val (.int (cs.getD k 0))] [(.int (95 : Int32)), (.int (cs.getD k 0))])) _
                          refine XS.icmpNo X17.here hx rfl (hb hby d_prog_14_method_15_code_64) rfl (feq hq27).1 ?_
                          show Steps p.tables e below (T17.setTop (mkF m 67 #[.val (.ref x), .val (.int (Int32.ofNat a)), .val (.int (Int32.ofNat b)), .val (.int nm), .val (.int (Int32.ofNat k)), .val (.int (cs.getD k 0))] [])) _
                          refine XS.iload X17.here hx rfl (hb hby d_prog_14_method_15_code_67) rfl ?_
                          show Steps p.tables e below (T17.setTop (mkF m 69 #[.val (.ref x), .val (.int (Int32.ofNat a)), .val (.int (Int32.ofNat b)), .val (.int nm), .val (.int (Int32.ofNat k)), .val (.int (cs.getD k 0))] [(.int (Int32.ofNat k))])) _
                          refine XS.iloadN X17.here hx rfl (hb hby d_prog_14_method_15_code_69) rfl ?_
                          show Steps p.tables e below (T17.setTop (mkF m 70 #[.val (.ref x), .val (.int (Int32.ofNat a)), .val (.int (Int32.ofNat b)), .val (.int nm), .val (.int (Int32.ofNat k)), .val (.int (cs.getD k 0))] [(.int (Int32.ofNat a)), (.int (Int32.ofNat k))])) _
                          refine XS.icmpNo X17.here hx rfl (hb hby d_prog_14_method_15_code_70) rfl (tlt hq28).2.2.2 ?_
                          show Steps p.tables e below (T17.setTop (mkF m 73 #[.val (.ref x), .val (.int (Int32.ofNat a)), .val (.int (Int32.ofNat b)), .val (.int nm), .val (.int (Int32.ofNat k)), .val (.int (cs.getD k 0))] [])) _
                          refine XS.iload X17.here hx rfl (hb hby d_prog_14_method_15_code_73) rfl ?_
                          show Steps p.tables e below (T17.setTop (mkF m 75 #[.val (.ref x), .val (.int (Int32.ofNat a)), .val (.int (Int32.ofNat b)), .val (.int nm), .val (.int (Int32.ofNat k)), .val (.int (cs.getD k 0))] [(.int (cs.getD k 0))])) _
                          refine XS.bipush X17.here hx rfl (hb hby d_prog_14_method_15_code_75) ?_
                          show Steps p.tables e below (T17.setTop (mkF m 77 #[.val (.ref x), .val (.int (Int32.ofNat a)), .val (.int (Int32.ofNat b)), .val (.int nm), .val (.int (Int32.ofNat k)), .val (.int (cs.getD k 0))] [(.int (48 : Int32)), (.int (cs.getD k 0))])) _
                          refine XS.icmpYes X17.here hx rfl (pc0 := 77) (pc' := 91) rfl (hb hby d_prog_14_method_15_code_77) rfl (tlt hq29).1 (by decide) (by decide) ?_
                          show Steps p.tables e below (T17.setTop (mkF m 91 #[.val (.ref x), .val (.int (Int32.ofNat a)), .val (.int (Int32.ofNat b)), .val (.int nm), .val (.int (Int32.ofNat k)), .val (.int (cs.getD k 0))] [])) _
                          refine XS.iconst X17.here hx rfl (hb hby d_prog_14_method_15_code_91) ?_
                          exact Steps.refl _)⟩
                      · by_cases hq30 : (57 : Int32) < (cs.getD k 0)
                        · exact ⟨_, (by rw [if_pos hq20, if_neg hq21, if_pos hq26, if_neg hq27, if_pos hq28, if_neg hq29, if_pos hq30]), c19.trans (by
                            show Steps p.tables e below (T17.setTop (mkF m 36 #[.val (.ref x), .val (.int (Int32.ofNat a)), .val (.int (Int32.ofNat b)), .val (.int nm), .val (.int (Int32.ofNat k)), .val (.int (cs.getD k 0))] [(.int (97 : Int32)), (.int (cs.getD k 0))])) _
                            refine XS.icmpYes X17.here hx rfl (pc0 := 36) (pc' := 46) rfl (hb hby d_prog_14_method_15_code_36) rfl (tlt hq20).1 (by decide) (by decide) ?_
                            show Steps p.tables e below (T17.setTop (mkF m 46 #[.val (.ref x), .val (.int (Int32.ofNat a)), .val (.int (Int32.ofNat b)), .val (.int nm), .val (.int (Int32.ofNat k)), .val (.int (cs.getD k 0))] [])) _
                            refine XS.iload X17.here hx rfl (hb hby d_prog_14_method_15_code_46) rfl ?_
                            show Steps p.tables e below (T17.setTop (mkF m 48 #[.val (.ref x), .val (.int (Int32.ofNat a)), .val (.int (Int32.ofNat b)), .val (.int nm), .val (.int (Int32.ofNat k)), .val (.int (cs.getD k 0))] [(.int (cs.getD k 0))])) _
                            refine XS.bipush X17.here hx rfl (hb hby d_prog_14_method_15_code_48) ?_
                            show Steps p.tables e below (T17.setTop (mkF m 50 #[.val (.ref x), .val (.int (Int32.ofNat a)), .val (.int (Int32.ofNat b)), .val (.int nm), .val (.int (Int32.ofNat k)), .val (.int (cs.getD k 0))] [(.int (65 : Int32)), (.int (cs.getD k 0))])) _
                            refine XS.icmpNo X17.here hx rfl (hb hby d_prog_14_method_15_code_50) rfl (flt hq21).1 ?_
                            show Steps p.tables e below (T17.setTop (mkF m 53 #[.val (.ref x), .val (.int (Int32.ofNat a)), .val (.int (Int32.ofNat b)), .val (.int nm), .val (.int (Int32.ofNat k)), .val (.int (cs.getD k 0))] [])) _
                            refine XS.iload X17.here hx rfl (hb hby d_prog_14_method_15_code_53) rfl ?_
                            show Steps p.tables e below (T17.setTop (mkF m 55 #[.val (.ref x), .val (.int (Int32.ofNat a)), .val (.int (Int32.ofNat b)), .val (.int nm), .val (.int (Int32.ofNat k)), .val (.int (cs.getD k 0))] [(.int (cs.getD k 0))])) _
                            refine XS.bipush X17.here hx rfl (hb hby d_prog_14_method_15_code_55) ?_
                            show Steps p.tables e below (T17.setTop (mkF m 57 #[.val (.ref x), .val (.int (Int32.ofNat a)), .val (.int (Int32.ofNat b)), .val (.int nm), .val (.int (Int32.ofNat k)), .val (.int (cs.getD k 0))] [(.int (90 : Int32)), (.int (cs.getD k 0))])) _
                            refine XS.icmpNo X17.here hx rfl (hb hby d_prog_14_method_15_code_57) rfl (tlt hq26).2.2.2 ?_
                            show Steps p.tables e below (T17.setTop (mkF m 60 #[.val (.ref x), .val (.int (Int32.ofNat a)), .val (.int (Int32.ofNat b)), .val (.int nm), .val (.int (Int32.ofNat k)), .val (.int (cs.getD k 0))] [])) _
                            refine XS.iload X17.here hx rfl (hb hby d_prog_14_method_15_code_60) rfl ?_
                            show Steps p.tables e below (T17.setTop (mkF m 62 #[.val (.ref x), .val (.int (Int32.ofNat a)), .val (.int (Int32.ofNat b)), .val (.int nm), .val (.int (Int32.ofNat k)), .val (.int (cs.getD k 0))] [(.int (cs.getD k 0))])) _
                            refine XS.bipush X17.here hx rfl (hb hby d_prog_14_method_15_code_62) ?_
                            show Steps p.tables e below (T17.setTop (mkF m 64 #[.val (.ref x), .val (.int (Int32.ofNat a)), .val (.int (Int32.ofNat b)), .val (.int nm), .val (.int (Int32.ofNat k)), .val (.int (cs.getD k 0))] [(.int (95 : Int32)), (.int (cs.getD k 0))])) _
                            refine XS.icmpNo X17.here hx rfl (hb hby d_prog_14_method_15_code_64) rfl (feq hq27).1 ?_
                            show Steps p.tables e below (T17.setTop (mkF m 67 #[.val (.ref x), .val (.int (Int32.ofNat a)), .val (.int (Int32.ofNat b)), .val (.int nm), .val (.int (Int32.ofNat k)), .val (.int (cs.getD k 0))] [])) _
                            refine XS.iload X17.here hx rfl (hb hby d_prog_14_method_15_code_67) rfl ?_
                            show Steps p.tables e below (T17.setTop (mkF m 69 #[.val (.ref x), .val (.int (Int32.ofNat a)), .val (.int (Int32.ofNat b)), .val (.int nm), .val (.int (Int32.ofNat k)), .val (.int (cs.getD k 0))] [(.int (Int32.ofNat k))])) _
                            refine XS.iloadN X17.here hx rfl (hb hby d_prog_14_method_15_code_69) rfl ?_
                            show Steps p.tables e below (T17.setTop (mkF m 70 #[.val (.ref x), .val (.int (Int32.ofNat a)), .val (.int (Int32.ofNat b)), .val (.int nm), .val (.int (Int32.ofNat k)), .val (.int (cs.getD k 0))] [(.int (Int32.ofNat a)), (.int (Int32.ofNat k))])) _
                            refine XS.icmpNo X17.here hx rfl (hb hby d_prog_14_method_15_code_70) rfl (tlt hq28).2.2.2 ?_
                            show Steps p.tables e below (T17.setTop (mkF m 73 #[.val (.ref x), .val (.int (Int32.ofNat a)), .val (.int (Int32.ofNat b)), .val (.int nm), .val (.int (Int32.ofNat k)), .val (.int (cs.getD k 0))] [])) _
                            refine XS.iload X17.here hx rfl (hb hby d_prog_14_method_15_code_73) rfl ?_
                            show Steps p.tables e below (T17.setTop (mkF m 75 #[.val (.ref x), .val (.int (Int32.ofNat a)), .val (.int (Int32.ofNat b)), .val (.int nm), .val (.int (Int32.ofNat k)), .val (.int (cs.getD k 0))] [(.int (cs.getD k 0))])) _
                            refine XS.bipush X17.here hx rfl (hb hby d_prog_14_method_15_code_75) ?_
                            show Steps p.tables e below (T17.setTop (mkF m 77 #[.val (.ref x), .val (.int (Int32.ofNat a)), .val (.int (Int32.ofNat b)), .val (.int nm), .val (.int (Int32.ofNat k)), .val (.int (cs.getD k 0))] [(.int (48 : Int32)), (.int (cs.getD k 0))])) _
                            refine XS.icmpNo X17.here hx rfl (hb hby d_prog_14_method_15_code_77) rfl (flt hq29).1 ?_
                            show Steps p.tables e below (T17.setTop (mkF m 80 #[.val (.ref x), .val (.int (Int32.ofNat a)), .val (.int (Int32.ofNat b)), .val (.int nm), .val (.int (Int32.ofNat k)), .val (.int (cs.getD k 0))] [])) _
                            refine XS.iload X17.here hx rfl (hb hby d_prog_14_method_15_code_80) rfl ?_
                            show Steps p.tables e below (T17.setTop (mkF m 82 #[.val (.ref x), .val (.int (Int32.ofNat a)), .val (.int (Int32.ofNat b)), .val (.int nm), .val (.int (Int32.ofNat k)), .val (.int (cs.getD k 0))] [(.int (cs.getD k 0))])) _
                            refine XS.bipush X17.here hx rfl (hb hby d_prog_14_method_15_code_82) ?_
                            show Steps p.tables e below (T17.setTop (mkF m 84 #[.val (.ref x), .val (.int (Int32.ofNat a)), .val (.int (Int32.ofNat b)), .val (.int nm), .val (.int (Int32.ofNat k)), .val (.int (cs.getD k 0))] [(.int (57 : Int32)), (.int (cs.getD k 0))])) _
                            refine XS.icmpYes X17.here hx rfl (pc0 := 84) (pc' := 91) rfl (hb hby d_prog_14_method_15_code_84) rfl (tlt hq30).2.2.1 (by decide) (by decide) ?_
                            show Steps p.tables e below (T17.setTop (mkF m 91 #[.val (.ref x), .val (.int (Int32.ofNat a)), .val (.int (Int32.ofNat b)), .val (.int nm), .val (.int (Int32.ofNat k)), .val (.int (cs.getD k 0))] [])) _
                            refine XS.iconst X17.here hx rfl (hb hby d_prog_14_method_15_code_91) ?_
                            exact Steps.refl _)⟩
                        · exact ⟨_, (by rw [if_pos hq20, if_neg hq21, if_pos hq26, if_neg hq27, if_pos hq28, if_neg hq29, if_neg hq30]), c19.trans (by
                            show Steps p.tables e below (T17.setTop (mkF m 36 #[.val (.ref x), .val (.int (Int32.ofNat a)), .val (.int (Int32.ofNat b)), .val (.int nm), .val (.int (Int32.ofNat k)), .val (.int (cs.getD k 0))] [(.int (97 : Int32)), (.int (cs.getD k 0))])) _
                            refine XS.icmpYes X17.here hx rfl (pc0 := 36) (pc' := 46) rfl (hb hby d_prog_14_method_15_code_36) rfl (tlt hq20).1 (by decide) (by decide) ?_
                            show Steps p.tables e below (T17.setTop (mkF m 46 #[.val (.ref x), .val (.int (Int32.ofNat a)), .val (.int (Int32.ofNat b)), .val (.int nm), .val (.int (Int32.ofNat k)), .val (.int (cs.getD k 0))] [])) _
                            refine XS.iload X17.here hx rfl (hb hby d_prog_14_method_15_code_46) rfl ?_
                            show Steps p.tables e below (T17.setTop (mkF m 48 #[.val (.ref x), .val (.int (Int32.ofNat a)), .val (.int (Int32.ofNat b)), .val (.int nm), .val (.int (Int32.ofNat k)), .val (.int (cs.getD k 0))] [(.int (cs.getD k 0))])) _
                            refine XS.bipush X17.here hx rfl (hb hby d_prog_14_method_15_code_48) ?_
                            show Steps p.tables e below (T17.setTop (mkF m 50 #[.val (.ref x), .val (.int (Int32.ofNat a)), .val (.int (Int32.ofNat b)), .val (.int nm), .val (.int (Int32.ofNat k)), .val (.int (cs.getD k 0))] [(.int (65 : Int32)), (.int (cs.getD k 0))])) _
                            refine XS.icmpNo X17.here hx rfl (hb hby d_prog_14_method_15_code_50) rfl (flt hq21).1 ?_
                            show Steps p.tables e below (T17.setTop (mkF m 53 #[.val (.ref x), .val (.int (Int32.ofNat a)), .val (.int (Int32.ofNat b)), .val (.int nm), .val (.int (Int32.ofNat k)), .val (.int (cs.getD k 0))] [])) _
                            refine XS.iload X17.here hx rfl (hb hby d_prog_14_method_15_code_53) rfl ?_
                            show Steps p.tables e below (T17.setTop (mkF m 55 #[.val (.ref x), .val (.int (Int32.ofNat a)), .val (.int (Int32.ofNat b)), .val (.int nm), .val (.int (Int32.ofNat k)), .val (.int (cs.getD k 0))] [(.int (cs.getD k 0))])) _
                            refine XS.bipush X17.here hx rfl (hb hby d_prog_14_method_15_code_55) ?_
                            show Steps p.tables e below (T17.setTop (mkF m 57 #[.val (.ref x), .val (.int (Int32.ofNat a)), .val (.int (Int32.ofNat b)), .val (.int nm), .val (.int (Int32.ofNat k)), .val (.int (cs.getD k 0))] [(.int (90 : Int32)), (.int (cs.getD k 0))])) _
                            refine XS.icmpNo X17.here hx rfl (hb hby d_prog_14_method_15_code_57) rfl (tlt hq26).2.2.2 ?_
                            show Steps p.tables e below (T17.setTop (mkF m 60 #[.val (.ref x), .val (.int (Int32.ofNat a)), .val (.int (Int32.ofNat b)), .val (.int nm), .val (.int (Int32.ofNat k)), .val (.int (cs.getD k 0))] [])) _
                            refine XS.iload X17.here hx rfl (hb hby d_prog_14_method_15_code_60) rfl ?_
                            show Steps p.tables e below (T17.setTop (mkF m 62 #[.val (.ref x), .val (.int (Int32.ofNat a)), .val (.int (Int32.ofNat b)), .val (.int nm), .val (.int (Int32.ofNat k)), .val (.int (cs.getD k 0))] [(.int (cs.getD k 0))])) _
                            refine XS.bipush X17.here hx rfl (hb hby d_prog_14_method_15_code_62) ?_
                            show Steps p.tables e below (T17.setTop (mkF m 64 #[.val (.ref x), .val (.int (Int32.ofNat a)), .val (.int (Int32.ofNat b)), .val (.int nm), .val (.int (Int32.ofNat k)), .val (.int (cs.getD k 0))] [(.int (95 : Int32)), (.int (cs.getD k 0))])) _
                            refine XS.icmpNo X17.here hx rfl (hb hby d_prog_14_method_15_code_64) rfl (feq hq27).1 ?_
                            show Steps p.tables e below (T17.setTop (mkF m 67 #[.val (.ref x), .val (.int (Int32.ofNat a)), .val (.int (Int32.ofNat b)), .val (.int nm), .val (.int (Int32.ofNat k)), .val (.int (cs.getD k 0))] [])) _
                            refine XS.iload X17.here hx rfl (hb hby d_prog_14_method_15_code_67) rfl ?_
                            show Steps p.tables e below (T17.setTop (mkF m 69 #[.val (.ref x), .val (.int (Int32.ofNat a)), .val (.int (Int32.ofNat b)), .val (.int nm), .val (.int (Int32.ofNat k)), .val (.int (cs.getD k 0))] [(.int (Int32.ofNat k))])) _
                            refine XS.iloadN X17.here hx rfl (hb hby d_prog_14_method_15_code_69) rfl ?_
                            show Steps p.tables e below (T17.setTop (mkF m 70 #[.val (.ref x), .val (.int (Int32.ofNat a)), .val (.int (Int32.ofNat b)), .val (.int nm), .val (.int (Int32.ofNat k)), .val (.int (cs.getD k 0))] [(.int (Int32.ofNat a)), (.int (Int32.ofNat k))])) _
                            refine XS.icmpNo X17.here hx rfl (hb hby d_prog_14_method_15_code_70) rfl (tlt hq28).2.2.2 ?_
                            show Steps p.tables e below (T17.setTop (mkF m 73 #[.val (.ref x), .val (.int (Int32.ofNat a)), .val (.int (Int32.ofNat b)), .val (.int nm), .val (.int (Int32.ofNat k)), .val (.int (cs.getD k 0))] [])) _
                            refine XS.iload X17.here hx rfl (hb hby d_prog_14_method_15_code_73) rfl ?_
                            show Steps p.tables e below (T17.setTop (mkF m 75 #[.val (.ref x), .val (.int (Int32.ofNat a)), .val (.int (Int32.ofNat b)), .val (.int nm), .val (.int (Int32.ofNat k)), .val (.int (cs.getD k 0))] [(.int (cs.getD k 0))])) _
                            refine XS.bipush X17.here hx rfl (hb hby d_prog_14_method_15_code_75) ?_
                            show Steps p.tables e below (T17.setTop (mkF m 77 #[.val (.ref x), .val (.int (Int32.ofNat a)), .val (.int (Int32.ofNat b)), .val (.int nm), .val (.int (Int32.ofNat k)), .val (.int (cs.getD k 0))] [(.int (48 : Int32)), (.int (cs.getD k 0))])) _
                            refine XS.icmpNo X17.here hx rfl (hb hby d_prog_14_method_15_code_77) rfl (flt hq29).1 ?_
                            show Steps p.tables e below (T17.setTop (mkF m 80 #[.val (.ref x), .val (.int (Int32.ofNat a)), .val (.int (Int32.ofNat b)), .val (.int nm), .val (.int (Int32.ofNat k)), .val (.int (cs.getD k 0))] [])) _
                            refine XS.iload X17.here hx rfl (hb hby d_prog_14_method_15_code_80) rfl ?_
                            show Steps p.tables e below (T17.setTop (mkF m 82 #[.val (.ref x), .val (.int (Int32.ofNat a)), .val (.int (Int32.ofNat b)), .val (.int nm), .val (.int (Int32.ofNat k)), .val (.int (cs.getD k 0))] [(.int (cs.getD k 0))])) _
                            refine XS.bipush X17.here hx rfl (hb hby d_prog_14_method_15_code_82) ?_
                            show Steps p.tables e below (T17.setTop (mkF m 84 #[.val (.ref x), .val (.int (Int32.ofNat a)), .val (.int (Int32.ofNat b)), .val (.int nm), .val (.int (Int32.ofNat k)), .val (.int (cs.getD k 0))] [(.int (57 : Int32)), (.int (cs.getD k 0))])) _
                            refine XS.icmpNo X17.here hx rfl (hb hby d_prog_14_method_15_code_84) rfl (flt hq30).2.2.1 ?_
                            show Steps p.tables e below (T17.setTop (mkF m 87 #[.val (.ref x), .val (.int (Int32.ofNat a)), .val (.int (Int32.ofNat b)), .val (.int nm), .val (.int (Int32.ofNat k)), .val (.int (cs.getD k 0))] [])) _
                            refine XS.iconst X17.here hx rfl (hb hby d_prog_14_method_15_code_87) ?_
                            show Steps p.tables e below (T17.setTop (mkF m 88 #[.val (.ref x), .val (.int (Int32.ofNat a)), .val (.int (Int32.ofNat b)), .val (.int nm), .val (.int (Int32.ofNat k)), .val (.int (cs.getD k 0))] [(.int (1 : Int32))])) _
                            refine XS.goto X17.here hx rfl (pc0 := 88) (pc' := 92) rfl (hb hby d_prog_14_method_15_code_88) (by decide) (by decide) ?_
                            exact Steps.refl _)⟩
                    · exact ⟨_, (by rw [if_pos hq20, if_neg hq21, if_pos hq26, if_neg hq27, if_neg hq28]), c19.trans (by
                        show Steps p.tables e below (T17.setTop (mkF m 36 #[.val (.ref x), .val (.int (Int32.ofNat a)), .val (.int (Int32.ofNat b)), .val (.int nm), .val (.int (Int32.ofNat k)), .val (.int (cs.getD k 0))] [(.int (97 : Int32)), (.int (cs.getD k 0))])) _
                        refine XS.icmpYes X17.here hx rfl (pc0 := 36) (pc' := 46) rfl (hb hby d_prog_14_method_15_code_36) rfl (tlt hq20).1 (by decide) (by decide) ?_
                        show Steps p.tables e below (T17.setTop (mkF m 46 #[.val (.ref x), .val (.int (Int32.ofNat a)), .val (.int (Int32.ofNat b)), .val (.int nm), .val (.int (Int32.ofNat k)), .val (.int (cs.getD k 0))] [])) _
                        refine XS.iload X17.here hx rfl (hb hby d_prog_14_method_15_code_46) rfl ?_
                        show Steps p.tables e below (T17.setTop (mkF m 48 #[.val (.ref x), .val (.int (Int32.ofNat a)), .val (.int (Int32.ofNat b)), .val (.int nm), .val (.int (Int32.ofNat k)), .val (.int (cs.getD k 0))] [(.int (cs.getD k 0))])) _
                        refine XS.bipush X17.here hx rfl (hb hby d_prog_14_method_15_code_48) ?_
                        show Steps p.tables e below (T17.setTop (mkF m 50 #[.val (.ref x), .val (.int (Int32.ofNat a)), .val (.int (Int32.ofNat b)), .val (.int nm), .val (.int (Int32.ofNat k)), .val (.int (cs.getD k 0))] [(.int (65 : Int32)), (.int (cs.getD k 0))])) _
                        refine XS.icmpNo X17.here hx rfl (hb hby d_prog_14_method_15_code_50) rfl (flt hq21).1 ?_
                        show Steps p.tables e below (T17.setTop (mkF m 53 #[.val (.ref x), .val (.int (Int32.ofNat a)), .val (.int (Int32.ofNat b)), .val (.int nm), .val (.int (Int32.ofNat k)), .val (.int (cs.getD k 0))] [])) _
                        refine XS.iload X17.here hx rfl (hb hby d_prog_14_method_15_code_53) rfl ?_
                        show Steps p.tables e below (T17.setTop (mkF m 55 #[.val (.ref x), .val (.int (Int32.ofNat a)), .val (.int (Int32.ofNat b)), .val (.int nm), .val (.int (Int32.ofNat k)), .val (.int (cs.getD k 0))] [(.int (cs.getD k 0))])) _
                        refine XS.bipush X17.here hx rfl (hb hby d_prog_14_method_15_code_55) ?_
                        show Steps p.tables e below (T17.setTop (mkF m 57 #[.val (.ref x), .val (.int (Int32.ofNat a)), .val (.int (Int32.ofNat b)), .val (.int nm), .val (.int (Int32.ofNat k)), .val (.int (cs.getD k 0))] [(.int (90 : Int32)), (.int (cs.getD k 0))])) _
                        refine XS.icmpNo X17.here hx rfl (hb hby d_prog_14_method_15_code_57) rfl (tlt hq26).2.2.2 ?_
                        show Steps p.tables e below (T17.setTop (mkF m 60 #[.val (.ref x), .val (.int (Int32.ofNat a)), .val (.int (Int32.ofNat b)), .val (.int nm), .val (.int (Int32.ofNat k)), .val (.int (cs.getD k 0))] [])) _
                        refine XS.iload X17.here hx rfl (hb hby d_prog_14_method_15_code_60) rfl ?_
                        show Steps p.tables e below (T17.setTop (mkF m 62 #[.val (.ref x), .val (.int (Int32.ofNat a)), .val (.int (Int32.ofNat b)), .val (.int nm), .val (.int (Int32.ofNat k)), .val (.int (cs.getD k 0))] [(.int (cs.getD k 0))])) _
                        refine XS.bipush X17.here hx rfl (hb hby d_prog_14_method_15_code_62) ?_
                        show Steps p.tables e below (T17.setTop (mkF m 64 #[.val (.ref x), .val (.int (Int32.ofNat a)), .val (.int (Int32.ofNat b)), .val (.int nm), .val (.int (Int32.ofNat k)), .val (.int (cs.getD k 0))] [(.int (95 : Int32)), (.int (cs.getD k 0))])) _
                        refine XS.icmpNo X17.here hx rfl (hb hby d_prog_14_method_15_code_64) rfl (feq hq27).1 ?_
                        show Steps p.tables e below (T17.setTop (mkF m 67 #[.val (.ref x), .val (.int (Int32.ofNat a)), .val (.int (Int32.ofNat b)), .val (.int nm), .val (.int (Int32.ofNat k)), .val (.int (cs.getD k 0))] [])) _
                        refine XS.iload X17.here hx rfl (hb hby d_prog_14_method_15_code_67) rfl ?_
                        show Steps p.tables e below (T17.setTop (mkF m 69 #[.val (.ref x), .val (.int (Int32.ofNat a)), .val (.int (Int32.ofNat b)), .val (.int nm), .val (.int (Int32.ofNat k)), .val (.int (cs.getD k 0))] [(.int (Int32.ofNat k))])) _
                        refine XS.iloadN X17.here hx rfl (hb hby d_prog_14_method_15_code_69) rfl ?_
                        show Steps p.tables e below (T17.setTop (mkF m 70 #[.val (.ref x), .val (.int (Int32.ofNat a)), .val (.int (Int32.ofNat b)), .val (.int nm), .val (.int (Int32.ofNat k)), .val (.int (cs.getD k 0))] [(.int (Int32.ofNat a)), (.int (Int32.ofNat k))])) _
                        refine XS.icmpYes X17.here hx rfl (pc0 := 70) (pc' := 91) rfl (hb hby d_prog_14_method_15_code_70) rfl (flt hq28).2.2.2 (by decide) (by decide) ?_
                        show Steps p.tables e below (T17.setTop (mkF m 91 #[.val (.ref x), .val (.int (Int32.ofNat a)), .val (.int (Int32.ofNat b)), .val (.int nm), .val (.int (Int32.ofNat k)), .val (.int (cs.getD k 0))] [])) _
                        refine XS.iconst X17.here hx rfl (hb hby d_prog_14_method_15_code_91) ?_
                        exact Steps.refl _)⟩
                · exact ⟨_, (by rw [if_pos hq20, if_neg hq21, if_neg hq26]), c19.trans (by
                    show Steps p.tables e below (T17.setTop (mkF m 36 #[.val (.ref x), .val (.int (Int32.ofNat a)), .val (.int (Int32.ofNat b)), .val (.int nm), .val (.int (Int32.ofNat k)), .val (.int (cs.getD k 0))] [(.int (97 : Int32)), (.int (cs.getD k 0))])) _
                    refine XS.icmpYes X17.here hx rfl (pc0 := 36) (pc' := 46) rfl (hb hby d_prog_14_method_15_code_36) rfl (tlt hq20).1 (by decide) (by decide) ?_
                    show Steps p.tables e below (T17.setTop (mkF m 46 #[.val (.ref x), .val (.int (Int32.ofNat a)), .val (.int (Int32.ofNat b)), .val (.int nm), .val (.int (Int32.ofNat k)), .val (.int (cs.getD k 0))] [])) _
                    refine XS.iload X17.here hx rfl (hb hby d_prog_14_method_15_code_46) rfl ?_
                    show Steps p.tables e below (T17.setTop (mkF m 48 #[.val (.ref x), .val (.int (Int32.ofNat a)), .val (.int (Int32.ofNat b)), .val (.int nm), .val (.int (Int32.ofNat k)), .val (.int (cs.getD k 0))] [(.int (cs.getD k 0))])) _
                    refine XS.bipush X17.here hx rfl (hb hby d_prog_14_method_15_code_48) ?_
                    show Steps p.tables e below (T17.setTop (mkF m 50 #[.val (.ref x), .val (.int (Int32.ofNat a)), .val (.int (Int32.ofNat b)), .val (.int nm), .val (.int (Int32.ofNat k)), .val (.int (cs.getD k 0))] [(.int (65 : Int32)), (.int (cs.getD k 0))])) _
                    refine XS.icmpNo X17.here hx rfl (hb hby d_prog_14_method_15_code_50) rfl (flt hq21).1 ?_
                    show Steps p.tables e below (T17.setTop (mkF m 53 #[.val (.ref x), .val (.int (Int32.ofNat a)), .val (.int (Int32.ofNat b)), .val (.int nm), .val (.int (Int32.ofNat k)), .val (.int (cs.getD k 0))] [])) _
                    refine XS.iload X17.here hx rfl (hb hby d_prog_14_method_15_code_53) rfl ?_
                    show Steps p.tables e below (T17.setTop (mkF m 55 #[.val (.ref x), .val (.int (Int32.ofNat a)), .val (.int (Int32.ofNat b)), .val (.int nm), .val (.int (Int32.ofNat k)), .val (.int (cs.getD k 0))] [(.int (cs.getD k 0))])) _
                    refine XS.bipush X17.here hx rfl (hb hby d_prog_14_method_15_code_55) ?_
                    show Steps p.tables e below (T17.setTop (mkF m 57 #[.val (.ref x), .val (.int (Int32.ofNat a)), .val (.int (Int32.ofNat b)), .val (.int nm), .val (.int (Int32.ofNat k)), .val (.int (cs.getD k 0))] [(.int (90 : Int32)), (.int (cs.getD k 0))])) _
                    refine XS.icmpYes X17.here hx rfl (pc0 := 57) (pc' := 87) rfl (hb hby d_prog_14_method_15_code_57) rfl (flt hq26).2.2.2 (by decide) (by decide) ?_
                    show Steps p.tables e below (T17.setTop (mkF m 87 #[.val (.ref x), .val (.int (Int32.ofNat a)), .val (.int (Int32.ofNat b)), .val (.int nm), .val (.int (Int32.ofNat k)), .val (.int (cs.getD k 0))] [])) _
                    refine XS.iconst X17.here hx rfl (hb hby d_prog_14_method_15_code_87) ?_
                    show Steps p.tables e below (T17.setTop (mkF m 88 #[.val (.ref x), .val (.int (Int32.ofNat a)), .val (.int (Int32.ofNat b)), .val (.int nm), .val (.int (Int32.ofNat k)), .val (.int (cs.getD k 0))] [(.int (1 : Int32))])) _
                    refine XS.goto X17.here hx rfl (pc0 := 88) (pc' := 92) rfl (hb hby d_prog_14_method_15_code_88) (by decide) (by decide) ?_
                    exact Steps.refl _)⟩
            · by_cases hq31 : (122 : Int32) < (cs.getD k 0)
              · by_cases hq32 : (cs.getD k 0) < (65 : Int32)
                · by_cases hq33 : (cs.getD k 0) = (95 : Int32)
                  · exact ⟨_, (by rw [if_neg hq20, if_pos hq31, if_pos hq32, if_pos hq33]), c19.trans (by
                      show Steps p.tables e below (T17.setTop (mkF m 36 #[.val (.ref x), .val (.int (Int32.ofNat a)), .val (.int (Int32.ofNat b)), .val (.int nm), .val (.int (Int32.ofNat k)), .val (.int (cs.getD k 0))] [(.int (97 : Int32)), (.int (cs.getD k 0))])) _
                      refine XS.icmpNo X17.here hx rfl (hb hby d_prog_14_method_15_code_36) rfl (flt hq20).1 ?_
                      show Steps p.tables e below (T17.setTop (mkF m 39 #[.val (.ref x), .val (.int (Int32.ofNat a)), .val (.int (Int32.ofNat b)), .val (.int nm), .val (.int (Int32.ofNat k)), .val (.int (cs.getD k 0))] [])) _
                      refine XS.iload X17.here hx rfl (hb hby d_prog_14_method_15_code_39) rfl ?_
                      show Steps p.tables e below (T17.setTop (mkF m 41 #[.val (.ref x), .val (.int (Int32.ofNat a)), .val (.int (Int32.ofNat b)), .val (.int nm), .val (.int (Int32.ofNat k)), .val (.int (cs.getD k 0))] [(.int (cs.getD k 0))])) _
                      refine XS.bipush X17.here hx rfl (hb hby d_prog_14_method_15_code_41) ?_
                      show Steps p.tables e below (T17.setTop (mkF m 43 #[.val (.ref x), .val (.int (Int32.ofNat a)), .val (.int (Int32.ofNat b)), .val (.int nm), .val (.int (Int32.ofNat k)), .val (.int (cs.getD k 0))] [(.int (122 : Int32)), (.int (cs.getD k 0))])) _
                      refine XS.icmpNo X17.here hx rfl (hb hby d_prog_14_method_15_code_43) rfl (tlt hq31).2.2.2 ?_
                      show Steps p.tables e below (T17.setTop (mkF m 46 #[.val (.ref x), .val (.int (Int32.ofNat a)), .val (.int (Int32.ofNat b)), .val (.int nm), .val (.int (Int32.ofNat k)), .val (.int (cs.getD k 0))] [])) _
                      refine XS.iload X17.here hx rfl (hb hby d_prog_14_method_15_code_46) rfl ?_
                      show Steps p.tables e below (T17.setTop (mkF m 48 #[.val (.ref x), .val (.int (Int32.ofNat a)), .val (.int (Int32.ofNat b)), .val (.int nm), .val (.int (Int32.ofNat k)), .val (.int (cs.getD k 0))] [(.int (cs.getD k 0))])) _
                      refine XS.bipush X17.here hx rfl (hb hby d_prog_14_method_15_code_48) ?_
                      show Steps p.tables e below (T17.setTop (mkF m 50 #[.val (.ref x), .val (.int (Int32.ofNat a)), .val (.int (Int32.ofNat b)), .val (.int nm), .val (.int (Int32.ofNat k)), .val (.int (cs.getD k 0))] [(.int (65 : Int32)), (.int (cs.getD k 0))])) _
                      refine XS.icmpYes X17.here hx rfl (pc0 := 50) (pc' := 60) rfl (hb hby d_prog_14_method_15_code_50) rfl (tlt hq32).1 (by decide) (by decide) ?_
                      show Steps p.tables e below (T17.setTop (mkF m 60 #[.val (.ref x), .val (.int (Int32.ofNat a)), .val (.int (Int32.ofNat b)), .val (.int nm), .val (.int (Int32.ofNat k)), .val (.int (cs.getD k 0))] [])) _
                      refine XS.iload X17.here hx rfl (hb hby d_prog_14_method_15_code_60) rfl ?_
                      show Steps p.tables e below (T17.setTop (mkF m 62 #[.val (.ref x), .val (.int (Int32.ofNat a)), .val (.int (Int32.ofNat b)), .val (.int nm), .val (.int (Int32.ofNat k)), .val (.int (cs.getD k 0))] [(.int (cs.getD k 0))])) _
                      refine XS.bipush X17.here hx rfl (hb hby d_prog_14_method_15_code_62) ?_
                      show Steps p.tables e below (T17.setTop (mkF m 64 #[.val (.ref x), .val (.int (Int32.ofNat a)), .val (.int (Int32.ofNat b)), .val (.int nm), .val (.int (Int32.ofNat k)), .val (.int (cs.getD k 0))] [(.int (95 : Int32)), (.int (cs.getD k 0))])) _
                      refine XS.icmpYes X17.here hx rfl (pc0 := 64) (pc' := 87) rfl (hb hby d_prog_14_method_15_code_64) rfl (teq hq33).1 (by decide) (by decide) ?_
                      show Steps p.tables e below (T17.setTop (mkF m 87 #[.val (.ref x), .val (.int (Int32.ofNat a)), .val (.int (Int32.ofNat b)), .val (.int nm), .val (.int (Int32.ofNat k)), .val (.int (cs.getD k 0))] [])) _
                      refine XS.iconst X17.here hx rfl (hb hby d_prog_14_method_15_code_87) ?_
                      show Steps p.tables e below (T17.setTop (mkF m 88 #[.val (.ref x), .val (.int (Int32.ofNat a)), .val (.int (Int32.ofNat b)), .val (.int nm), .val (.int (Int32.ofNat k)), .val (.int (cs.getD k 0))] [(.int (1 : Int32))])) _
                      refine XS.goto X17.here hx rfl (pc0 := 88) (pc' := 92) rfl (hb hby d_prog_14_method_15_code_88) (by decide) (by decide) ?_
                      exact Steps.refl _)⟩
                  · by_cases hq34 : (Int32.ofNat a) < (Int32.ofNat k)
                    · by_cases hq35 : (cs.getD k 0) < (48 : Int32)
                      · exact ⟨_, (by rw [if_neg hq20, if_pos hq31, if_pos hq32, if_neg hq33, if_pos hq34, if_pos hq35]), c19.trans (by
                          show Steps p.tables e below (T17.setTop (mkF m 36 #[.val (.ref x), .val (.int (Int32.ofNat a)), .val (.int (Int32.ofNat b)), .val (.int nm), .val (.int (Int32.ofNat k)), .val (.int (cs.getD k 0))] [(.int (97 : Int32)), (.int (cs.getD k 0))])) _
                          refine XS.icmpNo X17.here hx rfl (hb hby d_prog_14_method_15_code_36) rfl (flt hq20).1 ?_
                          show Steps p.tables e below (T17.setTop (mkF m 39 #[.val (.ref x), .val (.int (Int32.ofNat a)), .val (.int (Int32.ofNat b)), .val (.int nm), .val (.int (Int32.ofNat k)), .val (.int (cs.getD k 0))] [])) _
                          refine XS.iload X17.here hx rfl (hb hby d_prog_14_method_15_code_39) rfl ?_
                          show Steps p.tables e below (T17.setTop (mkF m 41 #[.val (.ref x), .val (.int (Int32.ofNat a)), .val (.int (Int32.ofNat b)), .val (.int nm), .val (.int (Int32.ofNat k)), .val (.int (cs.getD k 0))] [(.int (cs.getD k 0))])) _
                          refine XS.bipush X17.here hx rfl (hb hby d_prog_14_method_15_code_41) ?_
                          show Steps p.tables e below (T17.setTop (mkF m 43 #[.val (.ref x), .val (.int (Int32.ofNat a)), .val (.int (Int32.ofNat b)), .val (.int nm), .val (.int (Int32.ofNat k)), .val (.int (cs.getD k 0))] [(.int (122 : Int32)), (.int (cs.getD k 0))])) _
                          refine XS.icmpNo X17.here hx rfl (hb hby d_prog_14_method_15_code_43) rfl (tlt hq31).2.2.2 ?_
                          show Steps p.tables e below (T17.setTop (mkF m 46 #[.val (.ref x), .val (.int (Int32.ofNat a)), .val (.int (Int32.ofNat b)), .val (.int nm), .val (.int (Int32.ofNat k)), .val (.int (cs.getD k 0))] [])) _
                          refine XS.iload X17.here hx rfl (hb hby d_prog_14_method_15_code_46) rfl ?_
                          show Steps p.tables e below (T17.setTop (mkF m 48 #[.val (.ref x), .val (.int (Int32.ofNat a)), .val (.int (Int32.ofNat b)), .val (.int nm), .val (.int (Int32.ofNat k)), .val (.int (cs.getD k 0))] [(.int (cs.getD k 0))])) _
                          refine XS.bipush X17.here hx rfl (hb hby d_prog_14_method_15_code_48) ?_
                          show Steps p.tables e below (T17.setTop (mkF m 50 #[.val (.ref x), .val (.int (Int32.ofNat a)), .val (.int (Int32.ofNat b)), .val (.int nm), .val (.int (Int32.ofNat k)), .val (.int (cs.getD k 0))] [(.int (65 : Int32)), (.int (cs.getD k 0))])) _
                          refine XS.icmpYes X17.here hx rfl (pc0 := 50) (pc' := 60) rfl (hb hby d_prog_14_method_15_code_50) rfl (tlt hq32).1 (by decide) (by decide) ?_
                          show Steps p.tables e below (T17.setTop (mkF m 60 #[.val (.ref x), .val (.int (Int32.ofNat a)), .val (.int (Int32.ofNat b)), .val (.int nm), .val (.int (Int32.ofNat k)), .val (.int (cs.getD k 0))] [])) _
                          refine XS.iload X17.here hx rfl (hb hby d_prog_14_method_15_code_60) rfl ?_
                          show Steps p.tables e below (T17.setTop (mkF m 62 #[.val (.ref x), .val (.int (Int32.ofNat a)), .val (.int (Int32.ofNat b)), .val (.int nm), .val (.int (Int32.ofNat k)), .val (.int (cs.getD k 0))] [(.int (cs.getD k 0))])) _
                          refine XS.bipush X17.here hx rfl (hb hby d_prog_14_method_15_code_62) ?_
                          show Steps p.tables e below (T17.setTop (mkF m 64 #[.val (.ref x), .val (.int (Int32.ofNat a)), .val (.int (Int32.ofNat b)), .val (.int nm), .val (.int (Int32.ofNat k)), .val (.int (cs.getD k 0))] [(.int (95 : Int32)), (.int (cs.getD k 0))])) _
                          refine XS.icmpNo X17.here hx rfl (hb hby d_prog_14_method_15_code_64) rfl (feq hq33).1 ?_
                          show Steps p.tables e below (T17.setTop (mkF m 67 #[.val (.ref x), .val (.int (Int32.ofNat a)), .val (.int (Int32.ofNat b)), .val (.int nm), .val (.int (Int32.ofNat k)), .val (.int (cs.getD k 0))] [])) _
                          refine XS.iload X17.here hx rfl (hb hby d_prog_14_method_15_code_67) rfl ?_
                          show Steps p.tables e below (T17.setTop (mkF m 69 #[.val (.ref x), .val (.int (Int32.ofNat a)), .val (.int (Int32.ofNat b)), .val (.int nm), .val (.int (Int32.ofNat k)), .val (.int (cs.getD k 0))] [(.int (Int32.ofNat k))])) _
                          refine XS.iloadN X17.here hx rfl (hb hby d_prog_14_method_15_code_69) rfl ?_
                          show Steps p.tables e below (T17.setTop (mkF m 70 #[.val (.ref x), .val (.int (Int32.ofNat a)), .val (.int (Int32.ofNat b)), .val (.int nm), .val (.int (Int32.ofNat k)), .val (.int (cs.getD k 0))] [(.int (Int32.ofNat a)), (.int (Int32.ofNat k))])) _
                          refine XS.icmpNo X17.here hx rfl (hb hby d_prog_14_method_15_code_70) rfl (tlt hq34).2.2.2 ?_
                          show Steps p.tables e below (T17.setTop (mkF m 73 #[.val (.ref x), .val (.int (Int32.ofNat a)), .val (.int (Int32.ofNat b)), .val (.int nm), .val (.int (Int32.ofNat k)), .val (.int (cs.getD k 0))] [])) _
                          refine XS.iload X17.here hx rfl (hb hby d_prog_14_method_15_code_73) rfl ?_
                          show Steps p.tables e below (T17.setTop (mkF m 75 #[.val (.ref x), .val (.int (Int32.ofNat a)), .val (.int (Int32.ofNat b)), .val (.int nm), .val (.int (Int32.ofNat k)), .val (.int (cs.getD k 0))] [(.int (cs.getD k 0))])) _
                          refine XS.bipush X17.here hx rfl (hb hby d_prog_14_method_15_code_75) ?_
                          show Steps p.tables e below (T17.setTop (mkF m 77 #[.val (.ref x), .val (.int (Int32.ofNat a)), .val (.int (Int32.ofNat b)), .val (.int nm), .val (.int (Int32.ofNat k)), .val (.int (cs.getD k 0))] [(.int (48 : Int32)), (.int (cs.getD k 0))])) _
                          refine XS.icmpYes X17.here hx rfl (pc0 := 77) (pc' := 91) rfl (hb hby d_prog_14_method_15_code_77) rfl (tlt hq35).1 (by decide) (by decide) ?_
                          show Steps p.tables e below (T17.setTop (mkF m 91 #[.val (.ref x), .val (.int (Int32.ofNat a)), .val (.int (Int32.ofNat b)), .val (.int nm), .val (.int (Int32.ofNat k)), .val (.int (cs.getD k 0))] [])) _
                          refine XS.iconst X17.here hx rfl (hb hby d_prog_14_method_15_code_91) ?_
                          exact Steps.refl _)⟩
                      · by_cases hq36 : (57 : Int32) < (cs.getD k 0)
                        · exact ⟨_, (by rw [if_neg hq20, if_pos hq31, if_pos hq32, if_neg hq33, if_pos hq34, if_neg hq35, if_pos hq36]), c19.trans (by
                            show Steps p.tables e below (T17.setTop (mkF m 36 #[.val (.ref x), .val (.int (Int32.ofNat a)), .val (.int (Int32.ofNat b)), .val (.int nm), .val (.int (Int32.ofNat k)), .val (.int (cs.getD k 0))] [(.int (97 : Int32)), (.int (cs.getD k 0))])) _
                            refine XS.icmpNo X17.here hx rfl (hb hby d_prog_14_method_15_code_36) rfl (flt hq20).1 ?_
                            show Steps p.tables e below (T17.setTop (mkF m 39 #[.val (.ref x), .val (.int (Int32.ofNat a)), .val (.int (Int32.ofNat b)), .val (.int nm), .val (.int (Int32.ofNat k)), .val (.int (cs.getD k 0))] [])) _
                            refine XS.iload X17.here hx rfl (hb hby d_prog_14_method_15_code_39) rfl ?_
                            show Steps p.tables e below (T17.setTop (mkF m 41 #[.val (.ref x), .val (.int (Int32.ofNat a)), .val (.int (Int32.ofNat b)), .val (.int nm), .val (.int (Int32.ofNat k)), .val (.int (cs.getD k 0))] [(.int (cs.getD k 0))])) _
                            refine XS.bipush X17.here hx rfl (hb hby d_prog_14_method_15_code_41) ?_
                            show Steps p.tables e below (T17.setTop (mkF m 43 #[.val (.ref x), .val (.int (Int32.ofNat a)), .val (.int (Int32.ofNat b)), .val (.int nm), .val (.int (Int32.ofNat k)), .val (.int (cs.getD k 0))] [(.int (122 : Int32)), (.int (cs.getD k 0))])) _
                            refine XS.icmpNo X17.here hx rfl (hb hby d_prog_14_method_15_code_43) rfl (tlt hq31).2.2.2 ?_
                            show Steps p.tables e below (T17.setTop (mkF m 46 #[.val (.ref x), .val (.int (Int32.ofNat a)), .val (.int (Int32.ofNat b)), .val (.int nm), .val (.int (Int32.ofNat k)), .val (.int (cs.getD k 0))] [])) _
                            refine XS.iload X17.here hx rfl (hb hby d_prog_14_method_15_code_46) rfl ?_
                            show Steps p.tables e below (T17.setTop (mkF m 48 #[.val (.ref x), .val (.int (Int32.ofNat a)), .val (.int (Int32.ofNat b)), .val (.int nm), .val (.int (Int32.ofNat k)), .val (.int (cs.getD k 0))] [(.int (cs.getD k 0))])) _
                            refine XS.bipush X17.here hx rfl (hb hby d_prog_14_method_15_code_48) ?_
                            show Steps p.tables e below (T17.setTop (mkF m 50 #[.val (.ref x), .val (.int (Int32.ofNat a)), .val (.int (Int32.ofNat b)), .val (.int nm), .val (.int (Int32.ofNat k)), .val (.int (cs.getD k 0))] [(.int (65 : Int32)), (.int (cs.getD k 0))])) _
                            refine XS.icmpYes X17.here hx rfl (pc0 := 50) (pc' := 60) rfl (hb hby d_prog_14_method_15_code_50) rfl (tlt hq32).1 (by decide) (by decide) ?_
                            show Steps p.tables e below (T17.setTop (mkF m 60 #[.val (.ref x), .val (.int (Int32.ofNat a)), .val (.int (Int32.ofNat b)), .val (.int nm), .val (.int (Int32.ofNat k)), .val (.int (cs.getD k 0))] [])) _
                            refine XS.iload X17.here hx rfl (hb hby d_prog_14_method_15_code_60) rfl ?_
                            show Steps p.tables e below (T17.setTop (mkF m 62 #[.val (.ref x), .val (.int (Int32.ofNat a)), .val (.int (Int32.ofNat b)), .val (.int nm), .val (.int (Int32.ofNat k)), .val (.int (cs.getD k 0))] [(.int (cs.getD k 0))])) _
                            refine XS.bipush X17.here hx rfl (hb hby d_prog_14_method_15_code_62) ?_
                            show Steps p.tables e below (T17.setTop (mkF m 64 #[.val (.ref x), .val (.int (Int32.ofNat a)), .val (.int (Int32.ofNat b)), .val (.int nm), .val (.int (Int32.ofNat k)), .val (.int (cs.getD k 0))] [(.int (95 : Int32)), (.int (cs.getD k 0))])) _
                            refine XS.icmpNo X17.here hx rfl (hb hby d_prog_14_method_15_code_64) rfl (feq hq33).1 ?_
                            show Steps p.tables e below (T17.setTop (mkF m 67 #[.val (.ref x), .val (.int (Int32.ofNat a)), .val (.int (Int32.ofNat b)), .val (.int nm), .val (.int (Int32.ofNat k)), .val (.int (cs.getD k 0))] [])) _
                            refine XS.iload X17.here hx rfl (hb hby d_prog_14_method_15_code_67) rfl ?_
                            show Steps p.tables e below (T17.setTop (mkF m 69 #[.val (.ref x), .val (.int (Int32.ofNat a)), .val (.int (Int32.ofNat b)), .val (.int nm), .val (.int (Int32.ofNat k)), .val (.int (cs.getD k 0))] [(.int (Int32.ofNat k))])) _
                            refine XS.iloadN X17.here hx rfl (hb hby d_prog_14_method_15_code_69) rfl ?_
                            show Steps p.tables e below (T17.setTop (mkF m 70 #[.val (.ref x), .val (.int (Int32.ofNat a)), .val (.int (Int32.ofNat b)), .val (.int nm), .val (.int (Int32.ofNat k)), .val (.int (cs.getD k 0))] [(.int (Int32.ofNat a)), (.int (Int32.ofNat k))])) _
                            refine XS.icmpNo X17.here hx rfl (hb hby d_prog_14_method_15_code_70) rfl (tlt hq34).2.2.2 ?_
                            show Steps p.tables e below (T17.setTop (mkF m 73 #[.val (.ref x), .val (.int (Int32.ofNat a)), .val (.int (Int32.ofNat b)), .val (.int nm), .val (.int (Int32.ofNat k)), .val (.int (cs.getD k 0))] [])) _
                            refine XS.iload X17.here hx rfl (hb hby d_prog_14_method_15_code_73) rfl ?_
                            show Steps p.tables e below (T17.setTop (mkF m 75 #[.val (.ref x), .val (.int (Int32.ofNat a)), .val (.int (Int32.ofNat b)), .val (.int nm), .val (.int (Int32.ofNat k)), .val (.int (cs.getD k 0))] [(.int (cs.getD k 0))])) _
                            refine XS.bipush X17.here hx rfl (hb hby d_prog_14_method_15_code_75) ?_
                            show Steps p.tables e below (T17.setTop (mkF m 77 #[.val (.ref x), .val (.int (Int32.ofNat a)), .val (.int (Int32.ofNat b)), .val (.int nm), .val (.int (Int32.ofNat k)), .val (.int (cs.getD k 0))] [(.int (48 : Int32)), (.int (cs.getD k 0))])) _
                            refine XS.icmpNo X17.here hx rfl (hb hby d_prog_14_method_15_code_77) rfl (flt hq35).1 ?_
                            show Steps p.tables e below (T17.setTop (mkF m 80 #[.val (.ref x), .val (.int (Int32.ofNat a)), .val (.int (Int32.ofNat b)), .val (.int nm), .val (.int (Int32.ofNat k)), .val (.int (cs.getD k 0))] [])) _
                            refine XS.iload X17.here hx rfl (hb hby d_prog_14_method_15_code_80) rfl ?_
                            show Steps p.tables e below (T17.setTop (mkF m 82 #[.val (.ref x), .val (.int (Int32.ofNat a)), .val (.int (Int32.ofNat b)), .val (.int nm), .val (.int (Int32.ofNat k)), .val (.int (cs.getD k 0))] [(.int (cs.getD k 0))])) _
                            refine XS.bipush X17.here hx rfl (hb hby d_prog_14_method_15_code_82) ?_
                            show Steps p.tables e below (T17.setTop (mkF m 84 #[.val (.ref x), .val (.int (Int32.ofNat a)), .val (.int (Int32.ofNat b)), .val (.int nm), .val (.int (Int32.ofNat k)), .val (.int (cs.getD k 0))] [(.int (57 : Int32)), (.int (cs.getD k 0))])) _
                            refine XS.icmpYes X17.here hx rfl (pc0 := 84) (pc' := 91) rfl (hb hby d_prog_14_method_15_code_84) rfl (tlt hq36).2.2.1 (by decide) (by decide) ?_
                            show Steps p.tables e below (T17.setTop (mkF m 91 #[.val (.ref x), .val (.int (Int32.ofNat a)), .val (.int (Int32.ofNat b)), .val (.int nm), .val (.int (Int32.ofNat k)), .val (.int (cs.getD k 0))] [])) _
                            refine XS.iconst X17.here hx rfl (hb hby d_prog_14_method_15_code_91) ?_
                            exact Steps.refl _)⟩
                        · exact ⟨_, (by rw [if_neg hq20, if_pos hq31, if_pos hq32, if_neg hq33, if_pos hq34, if_neg hq35, if_neg hq36]), c19.trans (by
                            show Steps p.tables e below (T17.setTop (mkF m 36 #[.val (.ref x), .val (.int (Int32.ofNat a)), .val (.int (Int32.ofNat b)), .val (.int nm), .val (.int (Int32.ofNat k)), .val (.int (cs.getD k 0))] [(.int (97 : Int32)), (.int (cs.getD k 0))])) _
                            refine XS.icmpNo X17.here hx rfl (hb hby d_prog_14_method_15_code_36) rfl (flt hq20).1 ?_
                            show Steps p.tables e below (T17.setTop (mkF m 39 #[.val (.ref x), .val (.int (Int32.ofNat a)), .val (.int (Int32.ofNat b)), .val (.int nm), .val (.int (Int32.ofNat k)), .val (.int (cs.getD k 0))] [])) _
                            refine XS.iload X17.here hx rfl (hb hby d_prog_14_method_15_code_39) rfl ?_
                            show Steps p.tables e below (T17.setTop (mkF m 41 #[.val (.ref x), .val (.int (Int32.ofNat a)), .val (.int (Int32.ofNat b)), .val (.int nm), .val (.int (Int32.ofNat k)), .val (.int (cs.getD k 0))] [(.int (cs.getD k 0))])) _
                            refine XS.bipush X17.here hx rfl (hb hby d_prog_14_method_15_code_41) ?_
                            show Steps p.tables e below (T17.setTop (mkF m 43 #[.val (.ref x), .val (.int (Int32.ofNat a)), .val (.int (Int32.ofNat b)), .val (.int nm), .val (.int (Int32.ofNat k)), .val (.int (cs.getD k 0))] [(.int (122 : Int32)), (.int (cs.getD k 0))])) _
                            refine XS.icmpNo X17.here hx rfl (hb hby d_prog_14_method_15_code_43) rfl (tlt hq31).2.2.2 ?_
                            show Steps p.tables e below (T17.setTop (mkF m 46 #[.val (.ref x), .val (.int (Int32.ofNat a)), .val (.int (Int32.ofNat b)), .val (.int nm), .val (.int (Int32.ofNat k)), .val (.int (cs.getD k 0))] [])) _
                            refine XS.iload X17.here hx rfl (hb hby d_prog_14_method_15_code_46) rfl ?_
                            show Steps p.tables e below (T17.setTop (mkF m 48 #[.val (.ref x), .val (.int (Int32.ofNat a)), .val (.int (Int32.ofNat b)), .val (.int nm), .val (.int (Int32.ofNat k)), .val (.int (cs.getD k 0))] [(.int (cs.getD k 0))])) _
                            refine XS.bipush X17.here hx rfl (hb hby d_prog_14_method_15_code_48) ?_
                            show Steps p.tables e below (T17.setTop (mkF m 50 #[.val (.ref x), .val (.int (Int32.ofNat a)), .val (.int (Int32.ofNat b)), .val (.int nm), .val (.int (Int32.ofNat k)), .val (.int (cs.getD k 0))] [(.int (65 : Int32)), (.int (cs.getD k 0))])) _
                            refine XS.icmpYes X17.here hx rfl (pc0 := 50) (pc' := 60) rfl (hb hby d_prog_14_method_15_code_50) rfl (tlt hq32).1 (by decide) (by decide) ?_
                            show Steps p.tables e below (T17.setTop (mkF m 60 #[.val (.ref x), .val (.int (Int32.ofNat a)), .val (.int (Int32.ofNat b)), .val (.int nm), .val (.int (Int32.ofNat k)), .val (.int (cs.getD k 0))] [])) _
                            refine XS.iload X17.here hx rfl (hb hby d_prog_14_method_15_code_60) rfl ?_
                            show Steps p.tables e below (T17.setTop (mkF m 62 #[.val (.ref x), .val (.int (Int32.ofNat a)), .val (.int (Int32.ofNat b)), .val (.int nm), .val (.int (Int32.ofNat k)), .val (.int (cs.getD k 0))] [(.int (cs.getD k 0))])) _
                            refine XS.bipush X17.here hx rfl (hb hby d_prog_14_method_15_code_62) ?_
                            show Steps p.tables e below (T17.setTop (mkF m 64 #[.val (.ref x), .val (.int (Int32.ofNat a)), .val (.int (Int32.ofNat b)), .val (.int nm), .val (.int (Int32.ofNat k)), .val (.int (cs.getD k 0))] [(.int (95 : Int32)), (.int (cs.getD k 0))])) _
                            refine XS.icmpNo X17.here hx rfl (hb hby d_prog_14_method_15_code_64) rfl (feq hq33).1 ?_
                            show Steps p.tables e below (T17.setTop (mkF m 67 #[.val (.ref x), .val (.int (Int32.ofNat a)), .val (.int (Int32.ofNat b)), .val (.int nm), .val (.int (Int32.ofNat k)), .val (.int (cs.getD k 0))] [])) _
                            refine XS.iload X17.here hx rfl (hb hby d_prog_14_method_15_code_67) rfl ?_
                            show Steps p.tables e below (T17.setTop (mkF m 69 #[.val (.ref x), .val (.int (Int32.ofNat a)), .val (.int (Int32.ofNat b)), .val (.int nm), .val (.int (Int32.ofNat k)), .val (.int (cs.getD k 0))] [(.int (Int32.ofNat k))])) _
                            refine XS.iloadN X17.here hx rfl (hb hby d_prog_14_method_15_code_69) rfl ?_
                            show Steps p.tables e below (T17.setTop (mkF m 70 #[.val (.ref x), .val (.int (Int32.ofNat a)), .val (.int (Int32.ofNat b)), .val (.int nm), .val (.int (Int32.ofNat k)), .val (.int (cs.getD k 0))] [(.int (Int32.ofNat a)), (.int (Int32.ofNat k))])) _
                            refine XS.icmpNo X17.here hx rfl (hb hby d_prog_14_method_15_code_70) rfl (tlt hq34).2.2.2 ?_
                            show Steps p.tables e below (T17.setTop (mkF m 73 #[.val (.ref x), .val (.int (Int32.ofNat a)), .val (.int (Int32.ofNat b)), .val (.int nm), .val (.int (Int32.ofNat k)), .val (.int (cs.getD k 0))] [])) _
                            refine XS.iload X17.here hx rfl (hb hby d_prog_14_method_15_code_73) rfl ?_
                            show Steps p.tables e below (T17.setTop (mkF m 75 #[.val (.ref x), .val (.int (Int32.ofNat a)), .val (.int (Int32.ofNat b)), .val (.int nm), .val (.int (Int32.ofNat k)), .val (.int (cs.getD k 0))] [(.int (cs.getD k 0))])) _
                            refine XS.bipush X17.here hx rfl (hb hby d_prog_14_method_15_code_75) ?_
                            show Steps p.tables e below (T17.setTop (mkF m 77 #[.val (.ref x), .val (.int (Int32.ofNat a)), .val (.int (Int32.ofNat b)), .val (.int nm), .val (.int (Int32.ofNat k)), .val (.int (cs.getD k 0))] [(.int (48 : Int32)), (.int (cs.getD k 0))])) _
                            refine XS.icmpNo X17.here hx rfl (hb hby d_prog_14_method_15_code_77) rfl (flt hq35).1 ?_
                            show Steps p.tables e below (T17.setTop (mkF m 80 #[.val (.ref x), .val (.int (Int32.ofNat a)), .val (.int (Int32.ofNat b)), .val (.int nm), .val (.int (Int32.ofNat k)), .val (.int (cs.getD k 0))] [])) _
                            refine XS.iload X17.here hx rfl (hb hby d_prog_14_method_15_code_80) rfl ?_
                            show Steps p.tables e below (T17.setTop (mkF m 82 #[.val (.ref x), .val (.int (Int32.ofNat a)), .val (.int (Int32.ofNat b)), .val (.int nm), .val (.int (Int32.ofNat k)), .val (.int (cs.getD k 0))] [(.int (cs.getD k 0))])) _
                            refine XS.bipush X17.here hx rfl (hb hby d_prog_14_method_15_code_82) ?_
                            show Steps p.tables e below (T17.setTop (mkF m 84 #[.val (.ref x), .val (.int (Int32.ofNat a)), .val (.int (Int32.ofNat b)), .val (.int nm), .val (.int (Int32.ofNat k)), .val (.int (cs.getD k 0))] [(.int (57 : Int32)), (.int (cs.getD k 0))])) _
                            refine XS.icmpNo X17.here hx rfl (hb hby d_prog_14_method_15_code_84) rfl (flt hq36).2.2.1 ?_
                            show Steps p.tables e below (T17.setTop (mkF m 87 #[.val (.ref x), .val (.int (Int32.ofNat a)), .val (.int (Int32.ofNat b)), .val (.int nm), .val (.int (Int32.ofNat k)), .val (.int (cs.getD k 0))] [])) _
                            refine XS.iconst X17.here hx rfl (hb hby d_prog_14_method_15_code_87) ?_
                            show Steps p.tables e below (T17.setTop (mkF m 88 #[.val (.ref x), .val (.int (Int32.ofNat a)), .val (.int (Int32.ofNat b)), .val (.int nm), .val (.int (Int32.ofNat k)), .val (.int (cs.getD k 0))] [(.int (1 : Int32))])) _
                            refine XS.goto X17.here hx rfl (pc0 := 88) (pc' := 92) rfl (hb hby d_prog_14_method_15_code_88) (by decide) (by decide) ?_
                            exact Steps.refl _)⟩
                    · exact ⟨_, (by rw [if_neg hq20, if_pos hq31, if_pos hq32, if_neg hq33, if_neg hq34]), c19.trans (by
                        show Steps p.tables e below (T17.setTop (mkF m 36 #[.val (.ref x), .val (.int (Int32.ofNat a)), .val (.int (Int32.ofNat b)), .val (.int nm), .val (.int (Int32.ofNat k)), .val (.int (cs.getD k 0))] [(.int (97 : Int32)), (.int (cs.getD k 0))])) _
                        refine XS.icmpNo X17.here hx rfl (hb hby d_prog_14_method_15_code_36) rfl (flt hq20).1 ?_
                        show Steps p.tables e below (T17.setTop (mkF m 39 #[.val (.ref x), .val (.int (Int32.ofNat a)), .val (.int (Int32.ofNat b)), .val (.int nm), .val (.int (Int32.ofNat k)), .val (.int (cs.getD k 0))] [])) _
                        refine XS.iload X17.here hx rfl (hb hby d_prog_14_method_15_code_39) rfl ?_
                        show Steps p.tables e below (T17.setTop (mkF m 41 #[.val (.ref x), .val (.int (Int32.ofNat a)), .val (.int (Int32.ofNat b)), .val (.int nm), .val (.int (Int32.ofNat k)), .val (.int (cs.getD k 0))] [(.int (cs.getD k 0))])) _
                        refine XS.bipush X17.here hx rfl (hb hby d_prog_14_method_15_code_41) ?_
                        show Steps p.tables e below (T17.setTop (mkF m 43 #[.val (.ref x), .val (.int (Int32.ofNat a)), .val (.int (Int32.ofNat b)), .val (.int nm), .val (.int (Int32.ofNat k)), .val (.int (cs.getD k 0))] [(.int (122 : Int32)), (.int (cs.getD k 0))])) _
                        refine XS.icmpNo X17.here hx rfl (hb hby d_prog_14_method_15_code_43) rfl (tlt hq31).2.2.2 ?_
                        show Steps p.tables e below (T17.setTop (mkF m 46 #[.val (.ref x), .val (.int (Int32.ofNat a)), .val (.int (Int32.ofNat b)), .val (.int nm), .val (.int (Int32.ofNat k)), .val (.int (cs.getD k 0))] [])) _
                        refine XS.iload X17.here hx rfl (hb hby d_prog_14_method_15_code_46) rfl ?_
                        show Steps p.tables e below (T17.setTop (mkF m 48 #[.val (.ref x), .val (.int (Int32.ofNat a)), .val (.int (Int32.ofNat b)), .val (.int nm), .val (.int (Int32.ofNat k)), .val (.int (cs.getD k 0))] [(.int (cs.getD k 0))])) _
                        refine XS.bipush X17.here hx rfl (hb hby d_prog_14_method_15_code_48) ?_
                        show Steps p.tables e below (T17.setTop (mkF m 50 #[.val (.ref x), .val (.int (Int32.ofNat a)), .val (.int (Int32.ofNat b)), .val (.int nm), .val (.int (Int32.ofNat k)), .val (.int (cs.getD k 0))] [(.int (65 : Int32)), (.int (cs.getD k 0))])) _
                        refine XS.icmpYes X17.here hx rfl (pc0 := 50) (pc' := 60) rfl (hb hby d_prog_14_method_15_code_50) rfl (tlt hq32).1 (by decide) (by decide) ?_
                        show Steps p.tables e below (T17.setTop (mkF m 60 #[.val (.ref x), .val (.int (Int32.ofNat a)), .val (.int (Int32.ofNat b)), .val (.int nm), .val (.int (Int32.ofNat k)), .val (.int (cs.getD k 0))] [])) _
                        refine XS.iload X17.here hx rfl (hb hby d_prog_14_method_15_code_60) rfl ?_
                        show Steps p.tables e below (T17.setTop (mkF m 62 #[.val (.ref x), .val (.int (Int32.ofNat a)), .val (.int (Int32.ofNat b)), .val (.int nm), .val (.int (Int32.ofNat k)), .val (.int (cs.getD k 0))] [(.int (cs.getD k 0))])) _
                        refine XS.bipush X17.here hx rfl (hb hby d_prog_14_method_15_code_62) ?_
                        show Steps p.tables e below (T17.setTop (mkF m 64 #[.val (.ref x), .val (.int (Int32.ofNat a)), .val (.int (Int32.ofNat b)), .val (.int nm), .val (.int (Int32.ofNat k)), .val (.int (cs.getD k 0))] [(.int (95 : Int32)), (.int (cs.getD k 0))])) _
                        refine XS.icmpNo X17.here hx rfl (hb hby d_prog_14_method_15_code_64) rfl (feq hq33).1 ?_
                        show Steps p.tables e below (T17.setTop (mkF m 67 #[.val (.ref x), .val (.int (Int32.ofNat a)), .val (.int (Int32.ofNat b)), .val (.int nm), .val (.int (Int32.ofNat k)), .val (.int (cs.getD k 0))] [])) _
                        refine XS.iload X17.here hx rfl (hb hby d_prog_14_method_15_code_67) rfl ?_
                        show Steps p.tables e below (T17.setTop (mkF m 69 #[.val (.ref x), .val (.int (Int32.ofNat a)), .val (.int (Int32.ofNat b)), .val (.int nm), .val (.int (Int32.ofNat k)), .val (.int (cs.getD k 0))] [(.int (Int32.ofNat k))])) _
                        refine XS.iloadN X17.here hx rfl (hb hby d_prog_14_method_15_code_69) rfl ?_
                        show Steps p.tables e below (T17.setTop (mkF m 70 #[.val (.ref x), .val (.int (Int32.ofNat a)), .val (.int (Int32.ofNat b)), .val (.int nm), .val (.int (Int32.ofNat k)), .val (.int (cs.getD k 0))] [(.int (Int32.ofNat a)), (.int (Int32.ofNat k))])) _
                        refine XS.icmpYes X17.here hx rfl (pc0 := 70) (pc' := 91) rfl (hb hby d_prog_14_method_15_code_70) rfl (flt hq34).2.2.2 (by decide) (by decide) ?_
                        show Steps p.tables e below (T17.setTop (mkF m 91 #[.val (.ref x), .val (.int (Int32.ofNat a)), .val (.int (Int32.ofNat b)), .val (.int nm), .val (.int (Int32.ofNat k)), .val (.int (cs.getD k 0))] [])) _
                        refine XS.iconst X17.here hx rfl (hb hby d_prog_14_method_15_code_91) ?_
                        exact Steps.refl _)⟩
                · by_cases hq37 : (90 : Int32) < (cs.getD k 0)
                  · by_cases hq38 : (cs.getD k 0) = (95 : Int32)
                    · exact ⟨_, (by rw [if_neg hq20, if_pos hq31, if_neg hq32, if_pos hq37, if_pos hq38]), c19.trans (by
                        show Steps p.tables e below (T17.setTop (mkF m 36 #[.val (.ref x), .val (.int (Int32.ofNat a)), .val (.int (Int32.ofNat b)), .val (.int nm), .val (.int (Int32.ofNat k)), .val (.int (cs.getD k 0))] [(.int (97 : Int32)), (.int (cs.getD k 0))])) _
                        refine XS.icmpNo X17.here hx rfl (hb hby d_prog_14_method_15_code_36) rfl (flt hq20).1 ?_
                        show Steps p.tables e below (T17.setTop (mkF m 39 #[.val (.ref x), .val (.int (Int32.ofNat a)), .val (.int (Int32.ofNat b)), .val (.int nm), .val (.int (Int32.ofNat k)), .val (.int (cs.getD k 0))] [])) _
                        refine XS.iload X17.here hx rfl (hb hby d_prog_14_method_15_code_39) rfl ?_
                        show Steps p.tables e below (T17.setTop (mkF m 41 #[.val (.ref x), .val (.int (Int32.ofNat a)), .val (.int (Int32.ofNat b)), .val (.int nm), .val (.int (Int32.ofNat k)), .val (.int (cs.getD k 0))] [(.int (cs.getD k 0))])) _
                        refine XS.bipush X17.here hx rfl (hb hby d_prog_14_method_15_code_41) ?_
                        show Steps p.tables e below (T17.setTop (mkF m 43 #[.val (.ref x), .val (.int (Int32.ofNat a)), .val (.int (Int32.ofNat b)), .val (.int nm), .val (.int (Int32.ofNat k)), .val (.int (cs.getD k 0))] [(.int (122 : Int32)), (.int (cs.getD k 0))])) _
                        refine XS.icmpNo X17.here hx rfl (hb hby d_prog_14_method_15_code_43) rfl (tlt hq31).2.2.2 ?_
                        show Steps p.tables e below (T17.setTop (mkF m 46 #[.val (.ref x), .val (.int (Int32.ofNat a)), .val (.int (Int32.ofNat b)), .val (.int nm), .val (.int (Int32.ofNat k)), .val (.int (cs.getD k 0))] [])) _
                        refine XS.iload X17.here hx rfl (hb hby d_prog_14_method_15_code_46) rfl ?_
                        show Steps p.tables e below (T17.setTop (mkF m 48 #[.val (.ref x), .val (.int (Int32.ofNat a)), .val (.int (Int32.ofNat b)), .val (.int nm), .val (.int (Int32.ofNat k)), .val (.int (cs.getD k 0))] [(.int (cs.getD k 0))])) _
                        refine XS.bipush X17.here hx rfl (hb hby d_prog_14_method_15_code_48) ?_
                        show Steps p.tables e below (T17.setTop (mkF m 50 #[.val (.ref x), .val (.int (Int32.ofNat a)), .val (.int (Int32.ofNat b)), .val (.int nm), .val (.int (Int32.ofNat k)), .val (.int (cs.getD k 0))] [(.int (65 : Int32)), (.int (cs.getD k 0))])) _
                        refine XS.icmpNo X17.here hx rfl (hb hby d_prog_14_method_15_code_50) rfl (flt hq32).1 ?_
                        show Steps p.tables e below (T17.setTop (mkF m 53 #[.val (.ref x), .val (.int (Int32.ofNat a)), .val (.int (Int32.ofNat b)), .val (.int nm), .val (.int (Int32.ofNat k)), .val (.int (cs.getD k 0))] [])) _
                        refine XS.iload X17.here hx rfl (hb hby d_prog_14_method_15_code_53) rfl ?_
                        show Steps p.tables e below (T17.setTop (mkF m 55 #[.val (.ref x), .val (.int (Int32.ofNat a)), .val (.int (Int32.ofNat b)), .val (.int nm), .val (.int (Int32.ofNat k)), .val (.int (cs.getD k 0))] [(.int (cs.getD k 0))])) _
                        refine XS.bipush X17.here hx rfl (hb hby d_prog_14_method_15_code_55) ?_
                        show Steps p.tables e below (T17.setTop (mkF m 57 #[.val (.ref x), .val (.int (Int32.ofNat a)), .val (.int (Int32.ofNat b)), .val (.int nm), .val (.int (Int32.ofNat k)), .val (.int (cs.getD k 0))] [(.int (90 : Int32)), (.int (cs.getD k 0))])) _
                        refine XS.icmpNo X17.here hx rfl (hb hby d_prog_14_method_15_code_57) rfl (tlt hq37).2.2.2 ?_
                        show Steps p.tables e below (T17.setTop (mkF m 60 #[.val (.ref x), .val (.int (Int32.ofNat a)), .val (.int (Int32.ofNat b)), .val (.int nm), .val (.int (Int32.ofNat k)), .val (.int (cs.getD k 0))] [])) _
                        refine XS.iload X17.here hx rfl (hb hby d_prog_14_method_15_code_60) rfl ?_
                        show Steps p.tables e below (T17.setTop (mkF m 62 #[.val (.ref x), .val (.int (Int32.ofNat a)), .val (.int (Int32.ofNat b)), .val (.int nm), .val (.int (Int32.ofNat k)), .val (.int (cs.getD k 0))] [(.int (cs.getD k 0))])) _
                        refine XS.bipush X17.here hx rfl (hb hby d_prog_14_method_15_code_62) ?_
                        show Steps p.tables e below (T17.setTop (mkF m 64 #[.val (.ref x), .val (.int (Int32.ofNat a)), .val (.int (Int32.ofNat b)), .val (.int nm), .val (.int (Int32.ofNat k)), .val (.int (cs.getD k 0))] [(.int (95 : Int32)), (.int (cs.getD k 0))])) _
                        refine XS.icmpYes X17.here hx rfl (pc0 := 64) (pc' := 87) rfl (hb hby d_prog_14_method_15_code_64) rfl (teq hq38).1 (by decide) (by decide) ?_
                        show Steps p.tables e below (T17.setTop (mkF m 87 #[.val (.ref x), .val (.int (Int32.ofNat a)), .val (.int (Int32.ofNat b)), .val (.int nm), .val (.int (Int32.ofNat k)), .val (.int (cs.getD k 0))] [])) _
                        refine XS.iconst X17.here hx rfl (hb hby d_prog_14_method_15_code_87) ?_
                        show Steps p.tables e below (T17.setTop (mkF m 88 #[.val (.ref x), .val (.int (Int32.ofNat a)), .val (.int (Int32.ofNat b)), .val (.int nm), .val (.int (Int32.ofNat k)), .val (.int (cs.getD k 0))] [(.int (1 : Int32))])) _
                        refine XS.goto X17.here hx rfl (pc0 := 88) (pc' := 92) rfl (hb hby d_prog_14_method_15_code_88) (by decide) (by decide) ?_
                        exact Steps.refl _)⟩
                    · by_cases hq39 : (Int32.ofNat a) < (Int32.ofNat k)
                      · by_cases hq40 : (cs.getD k 0) < (48 : Int32)
                        · exact ⟨_, (by rw [if_neg hq20, if_pos hq31, if_neg hq32, if_pos hq37, if_neg hq38, if_pos hq39, if_pos hq40]), c19.trans (by
                            show Steps p.tables e below (T17.setTop (mkF m 36 #[.val (.ref x), .val (.int (Int32.ofNat a)), .val (.int (Int32.ofNat b)), .val (.int nm), .val (.int (Int32.ofNat k)), .val (.int (cs.getD k 0))] [(.int (97 : Int32)), (.int (cs.getD k 0))])) _
                            refine XS.icmpNo X17.here hx rfl (hb hby d_prog_14_method_15_code_36) rfl (flt hq20).1 ?_
                            show Steps p.tables e below (T17.setTop (mkF m 39 #[.val (.ref x), .val (.int (Int32.ofNat a)), .val (.int (Int32.ofNat b)), .val (.int nm), .val (.int (Int32.ofNat k)), .val (.int (cs.getD k 0))] [])) _
                            refine XS.iload X17.here hx rfl (hb hby d_prog_14_method_15_code_39) rfl ?_
                            show Steps p.tables e below (T17.setTop (mkF m 41 #[.val (.ref x), .val (.int (Int32.ofNat a)), .val (.int (Int32.ofNat b)), .val (.int nm), .val (.int (Int32.ofNat k)), .val (.int (cs.getD k 0))] [(.int (cs.getD k 0))])) _
                            refine XS.bipush X17.here hx rfl (hb hby d_prog_14_method_15_code_41) ?_
                            show Steps p.tables e below (T17.setTop (mkF m 43 #[.val (.ref x), .val (.int (Int32.ofNat a)), .val (.int (Int32.ofNat b)), .val (.int nm), .val (.int (Int32.ofNat k)), .val (.int (cs.getD k 0))] [(.int (122 : Int32)), (.int (cs.getD k 0))])) _
                            refine XS.icmpNo X17.here hx rfl (hb hby d_prog_14_method_15_code_43) rfl (tlt hq31).2.2.2 ?_
                            show Steps p.tables e below (T17.setTop (mkF m 46 #[.val (.ref x), .val (.int (Int32.ofNat a)), .val (.int (Int32.ofNat b)), .val (.int nm), .val (.int (Int32.ofNat k)), .val (.int (cs.getD k 0))] [])) _
                            refine XS.iload X17.here hx rfl (hb hby d_prog_14_method_15_code_46) rfl ?_
                            show Steps p.tables e below (T17.setTop (mkF m 48 #[.val (.ref x), .val (.int (Int32.ofNat a)), .val (.int (Int32.ofNat b)), .val (.int nm), .val (.int (Int32.ofNat k)), .val (.int (cs.getD k 0))] [(.int (cs.getD k 0))])) _
                            refine XS.bipush X17.here hx rfl (hb hby d_prog_14_method_15_code_48) ?_
                            show Steps p.tables e below (T17.setTop (mkF m 50 #[.val (.ref x), .val (.int (Int32.ofNat a)), .val (.int (Int32.ofNat b)), .val (.int nm), .val (.int (Int32.ofNat k)), .val (.int (cs.getD k 0))] [(.int (65 : Int32)), (.int (cs.getD k 0))])) _
                            refine XS.icmpNo X17.here hx rfl (hb hby d_prog_14_method_15_code_50) rfl (flt hq32).1 ?_
                            show Steps p.tables e below (T17.setTop (mkF m 53 #[.val (.ref x), .val (.int (Int32.ofNat a)), .val (.int (Int32.ofNat b)), .val (.int nm), .val (.int (Int32.ofNat k)), .val (.int (cs.getD k 0))] [])) _
                            refine XS.iload X17.here hx rfl (hb hby d_prog_14_method_15_code_53) rfl ?_
                            show Steps p.tables e below (T17.setTop (mkF m 55 #[.val (.ref x), .val (.int (Int32.ofNat a)), .val (.int (Int32.ofNat b)), .val (.int nm), .val (.int (Int32.ofNat k)), .val (.int (cs.getD k 0))] [(.int (cs.getD k 0))])) _
                            refine XS.bipush X17.here hx rfl (hb hby d_prog_14_method_15_code_55) ?_
                            show Steps p.tables e below (T17.setTop (mkF m 57 #[.val (.ref x), .val (.int (Int32.ofNat a)), .val (.int (Int32.ofNat b)), .val (.int nm), .val (.int (Int32.ofNat k)), .val (.int (cs.getD k 0))] [(.int (90 : Int32)), (.int (cs.getD k 0))])) _
                            refine XS.icmpNo X17.here hx rfl (hb hby d_prog_14_method_15_code_57) rfl (tlt hq37).2.2.2 ?_
                            show Steps p.tables e below (T17.setTop (mkF m 60 #[.val (.ref x), .val (.int (Int32.ofNat a)), .val (.int (Int32.ofNat b)), .val (.int nm), .val (.int (Int32.ofNat k)), .val (.int (cs.getD k 0))] [])) _
                            refine XS.iload X17.here hx rfl (hb hby d_prog_14_method_15_code_60) rfl ?_
                            show Steps p.tables e below (T17.setTop (mkF m 62 #[.val (.ref x), .val (.int (Int32.ofNat a)), .val (.int (Int32.ofNat b)), .val (.int nm), .val (.int (Int32.ofNat k)), .val (.int (cs.getD k 0))] [(.int (cs.getD k 0))])) _
                            refine XS.bipush X17.here hx rfl (hb hby d_prog_14_method_15_code_62) ?_
                            show Steps p.tables e below (T17.setTop (mkF m 64 #[.val (.ref x), .val (.int (Int32.ofNat a)), .val (.int (Int32.ofNat b)), .val (.int nm), .val (.int (Int32.ofNat k)), .val (.int (cs.getD k 0))] [(.int (95 : Int32)), (.int (cs.getD k 0))])) _
                            refine XS.icmpNo X17.here hx rfl (hb hby d_prog_14_method_15_code_64) rfl (feq hq38).1 ?_
                            show Steps p.tables e below (T17.setTop (mkF m 67 #[.val (.ref x), .val (.int (Int32.ofNat a)), .val (.int (Int32.ofNat b)), .val (.int nm), .val (.int (Int32.ofNat k)), .val (.int (cs.getD k 0))] [])) _
                            refine XS.iload X17.here hx rfl (hb hby d_prog_14_method_15_code_67) rfl ?_
                            show Steps p.tables e below (T17.setTop (mkF m 69 #[.val (.ref x), .val (.int (Int32.ofNat a)), .val (.int (Int32.ofNat b)), .val (.int nm), .val (.int (Int32.ofNat k)), .val (.int (cs.getD k 0))] [(.int (Int32.ofNat k))])) _
                            refine XS.iloadN X17.here hx rfl (hb hby d_prog_14_method_15_code_69) rfl ?_
                            show Steps p.tables e below (T17.setTop (mkF m 70 #[.val (.ref x), .val (.int (Int32.ofNat a)), .val (.int (Int32.ofNat b)), .val (.int nm), .val (.int (Int32.ofNat k)), .val (.int (cs.getD k 0))] [(.int (Int32.ofNat a)), (.int (Int32.ofNat k))])) _
                            refine XS.icmpNo X17.here hx rfl (hb hby d_prog_14_method_15_code_70) rfl (tlt hq39).2.2.2 ?_
                            show Steps p.tables e below (T17.setTop (mkF m 73 #[.val (.ref x), .val (.int (Int32.ofNat a)), .val (.int (Int32.ofNat b)), .val (.int nm), .val (.int (Int32.ofNat k)), .val (.int (cs.getD k 0))] [])) _
                            refine XS.iload X17.here hx rfl (hb hby d_prog_14_method_15_code_73) rfl ?_
                            show Steps p.tables e below (T17.setTop (mkF m 75 #[.val (.ref x), .val (.int (Int32.ofNat a)), .val (.int (Int32.ofNat b)), .val (.int nm), .val (.int (Int32.ofNat k)), .val (.int (cs.getD k 0))] [(.int (cs.getD k 0))])) _
                            refine XS.bipush X17.here hx rfl (hb hby d_prog_14_method_15_code_75) ?_
                            show Steps p.tables e below (T17.setTop (mkF m 77 #[.val (.ref x), .val (.int (Int32.ofNat a)), .val (.int (Int32.ofNat b)), .val (.int nm), .val (.int (Int32.ofNat k)), .val (.int (cs.getD k 0))] [(.int (48 : Int32)), (.int (cs.getD k 0))])) _
                            refine XS.icmpYes X17.here hx rfl (pc0 := 77) (pc' := 91) rfl (hb hby d_prog_14_method_15_code_77) rfl (tlt hq40).1 (by decide) (by decide) ?_
                            show Steps p.tables e below (T17.setTop (mkF m 91 #[.val (.ref x), .val (.int (Int32.ofNat a)), .val (.int (Int32.ofNat b)), .val (.int nm), .val (.int (Int32.ofNat k)), .val (.int (cs.getD k 0))] [])) _
                            refine XS.iconst X17.here hx rfl (hb hby d_prog_14_method_15_code_91) ?_
                            exact Steps.refl _)⟩
                        · by_cases hq41 : (57 : Int32) < (cs.getD k 0)
                          · exact ⟨_, (by rw [if_neg hq20, if_pos hq31, if_neg hq32, if_pos hq37, if_neg hq38, if_pos hq39, if_neg hq40, if_pos hq41]), c19.trans (by
                              show Steps p.tables e below (T17.setTop (mkF m 36 #[.val (.ref x), .val (.int (Int32.ofNat a)), .val (.int (Int32.ofNat b)), .val (.int nm), .val (.int (Int32.ofNat k)), .val (.int (cs.getD k 0))] [(.int (97 : Int32)), (.int (cs.getD k 0))])) _
                              refine XS.icmpNo X17.here hx rfl (hb hby d_prog_14_method_15_code_36) rfl (flt hq20).1 ?_
                              show Steps p.tables e below (T17.setTop (mkF m 39 #[.val (.ref x), .val (.int (Int32.ofNat a)), .val (.int (Int32.ofNat b)), .val (.int nm), .val (.int (Int32.ofNat k)), .val (.int (cs.getD k 0))] [])) _
                              refine XS.iload X17.here hx rfl (hb hby d_prog_14_method_15_code_39) rfl ?_
                              show Steps p.tables e below (T17.setTop (mkF m 41 #[.val (.ref x), .val (.int (Int32.ofNat a)), .val (.int (Int32.ofNat b)), .val (.int nm), .val (.int (Int32.ofNat k)), .val (.int (cs.getD k 0))] [(.int (cs.getD k 0))])) _
                              refine XS.bipush X17.here hx rfl (hb hby d_prog_14_method_15_code_41) ?_
                              show Steps p.tables e below (T17.setTop (mkF m 43 #[.val (.ref x), .val (.int (Int32.ofNat a)), .val (.int (Int32.ofNat b)), .val (.int nm), .val (.int (Int32.ofNat k)), .val (.int (cs.getD k 0))] [(.int (122 : Int32)), (.int (cs.getD k 0))])) _
                              refine XS.icmpNo X17.here hx rfl (hb hby d_prog_14_method_15_code_43) rfl (tlt hq31).2.2.2 ?_
                              show Steps p.tables e below (T17.setTop (mkF m 46 #[.val (.ref x), .val (.int (Int32.ofNat a)), .val (.int (Int32.ofNat b)), .val (.int nm), .val (.int (Int32.ofNat k)), .val (.int (cs.getD k 0))] [])) _
                              refine XS.iload X17.here hx rfl (hb hby d_prog_14_method_15_code_46) rfl ?_
                              show Steps p.tables e below (T17.setTop (mkF m 48 #[.val (.ref x), .val (.int (Int32.ofNat a)), .val (.int (Int32.ofNat b)), .val (.int nm), .val (.int (Int32.ofNat k)), .val (.int (cs.getD k 0))] [(.int (cs.getD k 0))])) _
                              refine XS.bipush X17.here hx rfl (hb hby d_prog_14_method_15_code_48) ?_
                              show Steps p.tables e below (T17.setTop (mkF m 50 #[.val (.ref x), .val (.int (Int32.ofNat a)), .val (.int (Int32.ofNat b)), .val (.int nm), .val (.int (Int32.ofNat k)), .val (.int (cs.getD k 0))] [(.int (65 : Int32)), (.int (cs.getD k 0))])) _
                              refine XS.icmpNo X17.here hx rfl (hb hby d_prog_14_method_15_code_50) rfl (flt hq32).1 ?_
                              show Steps p.tables e below (T17.setTop (mkF m 53 #[.val (.ref x), .val (.int (Int32.ofNat a)), .val (.int (Int32.ofNat b)), .val (.int nm), .val (.int (Int32.ofNat k)), .val (.int (cs.getD k 0))] [])) _
                              refine XS.iload X17.here hx rfl (hb hby d_prog_14_method_15_code_53) rfl ?_
                              show Steps p.tables e below (T17.setTop (mkF m 55 #[.val (.ref x), .val (.int (Int32.ofNat a)), .val (.int (Int32.ofNat b)), .val (.int nm), .val (.int (Int32.ofNat k)), .val (.int (cs.getD k 0))] [(.int (cs.getD k 0))])) _
                              refine XS.bipush X17.here hx rfl (hb hby d_prog_14_method_15_code_55) ?_
                              show Steps p.tables e below (T17.setTop (mkF m 57 #[.val (.ref x), .val (.int (Int32.ofNat a)), .val (.int (Int32.ofNat b)), .val (.int nm), .val (.int (Int32.ofNat k)), .val (.int (cs.getD k 0))] [(.int (90 : Int32)), (.int (cs.getD k 0))])) _
                              refine XS.icmpNo X17.here hx rfl (hb hby d_prog_14_method_15_code_57) rfl (tlt hq37).2.2.2 ?_
                              show Steps p.tables e below (T17.setTop (mkF m 60 #[.val (.ref x), .val (.int (Int32.ofNat a)), .val (.int (Int32.ofNat b)), .val (.int nm), .val (.int (Int32.ofNat k)), .val (.int (cs.getD k 0))] [])) _
                              refine XS.iload X17.here hx rfl (hb hby d_prog_14_method_15_code_60) rfl ?_
                              show Steps p.tables e below (T17.setTop (mkF m 62 #[.val (.ref x), .val (.int (Int32.ofNat a)), .val (.int (Int32.ofNat b)), .val (.int nm), .val (.int (Int32.ofNat k)), .val (.int (cs.getD k 0))] [(.int (cs.getD k 0))])) _
                              refine XS.bipush X17.here hx rfl (hb hby d_prog_14_method_15_code_62) ?_
                              show Steps p.tables e below (T17.setTop (mkF m 64 #[.val (.ref x), .val (.int (Int32.ofNat a)), .val (.int (Int32.ofNat b)), .val (.int nm), .val (.int (Int32.ofNat k)), .val (.int (cs.getD k 0))] [(.int (95 : Int32)), (.int (cs.getD k 0))])) _
                              refine XS.icmpNo X17.here hx rfl (hb hby d_prog_14_method_15_code_64) rfl (feq hq38).1 ?_
                              show Steps p.tables e below (T17.setTop (mkF m 67 #[.val (.ref x), .val (.int (Int32.ofNat a)), .val (.int (Int32.ofNat b)), .val (.int nm), .val (.int (Int32.ofNat k)), .val (.int (cs.getD k 0))] [])) _
                              refine XS.iload X17.here hx rfl (hb hby d_prog_14_method_15_code_67) rfl ?_
                              show Steps p.tables e below (T17.setTop (mkF m 69 #[.val (.ref x), .val (.int (Int32.ofNat a)), .val (.int (Int32.ofNat b)), .val (.int nm), .val (.int (Int32.ofNat k)), .val (.int (cs.getD k 0))] [(.int (Int32.ofNat k))])) _
                              refine XS.iloadN X17.here hx rfl (hb hby d_prog_14_method_15_code_69) rfl ?_
                              show Steps p.tables e below (T17.setTop (mkF m 70 #[.val (.ref x), .val (.int (Int32.ofNat a)), .val (.int (Int32.ofNat b)), .val (.int nm), .val (.int (Int32.ofNat k)), .val (.int (cs.getD k 0))] [(.int (Int32.ofNat a)), (.int (Int32.ofNat k))])) _
                              refine XS.icmpNo X17.here hx rfl (hb hby d_prog_14_method_15_code_70) rfl (tlt hq39).2.2.2 ?_
                              show Steps p.tables e below (T17.setTop (mkF m 73 #[.val (.ref x), .val (.int (Int32.ofNat a)), .val (.int (Int32.ofNat b)), .val (.int nm), .val (.int (Int32.ofNat k)), .val (.int (cs.getD k 0))] [])) _
                              refine XS.iload X17.here hx rfl (hb hby d_prog_14_method_15_code_73) rfl ?_
                              show Steps p.tables e below (T17.setTop (mkF m 75 #[.val (.ref x), .val (.int (Int32.ofNat a)), .val (.int (Int32.ofNat b)), .val (.int nm), .val (.int (Int32.ofNat k)), .val (.int (cs.getD k 0))] [(.int (cs.getD k 0))])) _
                              refine XS.bipush X17.here hx rfl (hb hby d_prog_14_method_15_code_75) ?_
                              show Steps p.tables e below (T17.setTop (mkF m 77 #[.val (.ref x), .val (.int (Int32.ofNat a)), .val (.int (Int32.ofNat b)), .val (.int nm), .val (.int (Int32.ofNat k)), .val (.int (cs.getD k 0))] [(.int (48 : Int32)), (.int (cs.getD k 0))])) _
                              refine XS.icmpNo X17.here hx rfl (hb hby d_prog_14_method_15_code_77) rfl (flt hq40).1 ?_
                              show Steps p.tables e below (T17.setTop (mkF m 80 #[.val (.ref x), .val (.int (Int32.ofNat a)), .val (.int (Int32.ofNat b)), .val (.int nm), .val (.int (Int32.ofNat k)), .val (.int (cs.getD k 0))] [])) _
                              refine XS.iload X17.here hx rfl (hb hby d_prog_14_method_15_code_80) rfl ?_
                              show Steps p.tables e below (T17.setTop (mkF m 82 #[.val (.ref x), .val (.int (Int32.ofNat a)), .val (.int (Int32.ofNat b)), .val (.int nm), .val (.int (Int32.ofNat k)), .val (.int (cs.getD k 0))] [(.int (cs.getD k 0))])) _
                              refine XS.bipush X17.here hx rfl (hb hby d_prog_14_method_15_code_82) ?_
                              show Steps p.tables e below (T17.setTop (mkF m 84 #[.val (.ref x), .val (.int (Int32.ofNat a)), .val (.int (Int32.ofNat b)), .val (.int nm), .val (.int (Int32.ofNat k)), .val (.int (cs.getD k 0))] [(.int (57 : Int32)), (.int (cs.getD k 0))])) _
                              refine XS.icmpYes X17.here hx rfl (pc0 := 84) (pc' := 91) rfl (hb hby d_prog_14_method_15_code_84) rfl (tlt hq41).2.2.1 (by decide) (by decide) ?_
                              show Steps p.tables e below (T17.setTop (mkF m 91 #[.val (.ref x), .val (.int (Int32.ofNat a)), .val (.int (Int32.ofNat b)), .val (.int nm), .val (.int (Int32.ofNat k)), .val (.int (cs.getD k 0))] [])) _
                              refine XS.iconst X17.here hx rfl (hb hby d_prog_14_method_15_code_91) ?_
                              exact Steps.refl _)⟩
                          · exact ⟨_, (by rw [if_neg hq20, if_pos hq31, if_neg hq32, if_pos hq37, if_neg hq38, if_pos hq39, if_neg hq40, if_neg hq41]), c19.trans (by
                              show Steps p.tables e below (T17.setTop (mkF m 36 #[.val (.ref x), .val (.int (Int32.ofNat a)), .val (.int (Int32.ofNat b)), .val (.int nm), .val (.int (Int32.ofNat k)), .val (.int (cs.getD k 0))] [(.int (97 : Int32)), (.int (cs.getD k 0))])) _
                              refine XS.icmpNo X17.here hx rfl (hb hby d_prog_14_method_15_code_36) rfl (flt hq20).1 ?_
                              show Steps p.tables e below (T17.setTop (mkF m 39 #[.val (.ref x), .val (.int (Int32.ofNat a)), .val (.int (Int32.ofNat b)), .val (.int nm), .val (.int (Int32.ofNat k)), .val (.int (cs.getD k 0))] [])) _
                              refine XS.iload X17.here hx rfl (hb hby d_prog_14_method_15_code_39) rfl ?_
                              show Steps p.tables e below (T17.setTop (mkF m 41 #[.val (.ref x), .val (.int (Int32.ofNat a)), .val (.int (Int32.ofNat b)), .val (.int nm), .val (.int (Int32.ofNat k)), .val (.int (cs.getD k 0))] [(.int (cs.getD k 0))])) _
                              refine XS.bipush X17.here hx rfl (hb hby d_prog_14_method_15_code_41) ?_
                              show Steps p.tables e below (T17.setTop (mkF m 43 #[.val (.ref x), .val (.int (Int32.ofNat a)), .val (.int (Int32.ofNat b)), .val (.int nm), .val (.int (Int32.ofNat k)), .val (.int (cs.getD k 0))] [(.int (122 : Int32)), (.int (cs.getD k 0))])) _
                              refine XS.icmpNo X17.here hx rfl (hb hby d_prog_14_method_15_code_43) rfl (tlt hq31).2.2.2 ?_
                              show Steps p.tables e below (T17.setTop (mkF m 46 #[.val (.ref x), .val (.int (Int32.ofNat a)), .val (.int (Int32.ofNat b)), .val (.int nm), .val (.int (Int32.ofNat k)), .val (.int (cs.getD k 0))] [])) _
                              refine XS.iload X17.here hx rfl (hb hby d_prog_14_method_15_code_46) rfl ?_
                              show Steps p.tables e below (T17.setTop (mkF m 48 #[.val (.ref x), .val (.int (Int32.ofNat a)), .val (.int (Int32.ofNat b)), .val (.int nm), .val (.int (Int32.ofNat k)), .val (.int (cs.getD k 0))] [(.int (cs.getD k 0))])) _
                              refine XS.bipush X17.here hx rfl (hb hby d_prog_14_method_15_code_48) ?_
                              show Steps p.tables e below (T17.setTop (mkF m 50 #[.val (.ref x), .val (.int (Int32.ofNat a)), .val (.int (Int32.ofNat b)), .val (.int nm), .val (.int (Int32.ofNat k)), .val (.int (cs.getD k 0))] [(.int (65 : Int32)), (.int (cs.getD k 0))])) _
                              refine XS.icmpNo X17.here hx rfl (hb hby d_prog_14_method_15_code_50) rfl (flt hq32).1 ?_
                              show Steps p.tables e below (T17.setTop (mkF m 53 #[.val (.ref x), .val (.int (Int32.ofNat a)), .val (.int (Int32.ofNat b)), .val (.int nm), .val (.int (Int32.ofNat k)), .val (.int (cs.getD k 0))] [])) _
                              refine XS.iload X17.here hx rfl (hb hby d_prog_14_method_15_code_53) rfl ?_
                              show Steps p.tables e below (T17.setTop (mkF m 55 #[.val (.ref x), .val (.int (Int32.ofNat a)), .val (.int (Int32.ofNat b)), .val (.int nm), .val (.int (Int32.ofNat k)), .val (.int (cs.getD k 0))] [(.int (cs.getD k 0))])) _
                              refine XS.bipush X17.here hx rfl (hb hby d_prog_14_method_15_code_55) ?_
                              show Steps p.tables e below (T17.setTop (mkF m 57 #[.val (.ref x), .val (.int (Int32.ofNat a)), .val (.int (Int32.ofNat b)), .val (.int nm), .val (.int (Int32.ofNat k)), .val (.int (cs.getD k 0))] [(.int (90 : Int32)), (.int (cs.getD k 0))])) _
                              refine XS.icmpNo X17.here hx rfl (hb hby d_prog_14_method_15_code_57) rfl (tlt hq37).2.2.2 ?_
                              show Steps p.tables e below (T17.setTop (mkF m 60 #[.val (.ref x), .val (.int (Int32.ofNat a)), .val (.int (Int32.ofNat b)), .val (.int nm), .val (.int (Int32.ofNat k)), .val (.int (cs.getD k 0))] [])) _
                              refine XS.iload X17.here hx rfl (hb hby d_prog_14_method_15_code_60) rfl ?_
                              show Steps p.tables e below (T17.setTop (mkF m 62 #[.val (.ref x), .val (.int (Int32.ofNat a)), .val (.int (Int32.ofNat b)), .val (.int nm), .val (.int (Int32.ofNat k)), .val (.int (cs.getD k 0))] [(.int (cs.getD k 0))])) _
                              refine XS.bipush X17.here hx rfl (hb hby d_prog_14_method_15_code_62) ?_
                              show Steps p.tables e below (T17.setTop (mkF m 64 #[.val (.ref x), .val (.int (Int32.ofNat a)), .val (.int (Int32.ofNat b)), .val (.int nm), .val (.int (Int32.ofNat k)), .val (.int (cs.getD k 0))] [(.int (95 : Int32)), (.int (cs.getD k 0))])) _
                              refine XS.icmpNo X17.here hx rfl (hb hby d_prog_14_method_15_code_64) rfl (feq hq38).1 ?_
                              show Steps p.tables e below (T17.setTop (mkF m 67 #[.val (.ref x), .val (.int (Int32.ofNat a)), .val (.int (Int32.ofNat b)), .val (.int nm), .val (.int (Int32.ofNat k)), .val (.int (cs.getD k 0))] [])) _
                              refine XS.iload X17.here hx rfl (hb hby d_prog_14_method_15_code_67) rfl ?_
                              show Steps p.tables e below (T17.setTop (mkF m 69 #[.val (.ref x), .val (.int (Int32.ofNat a)), .val (.int (Int32.ofNat b)), .val (.int nm), .val (.int (Int32.ofNat k)), .val (.int (cs.getD k 0))] [(.int (Int32.ofNat k))])) _
                              refine XS.iloadN X17.here hx rfl (hb hby d_prog_14_method_15_code_69) rfl ?_
                              show Steps p.tables e below (T17.setTop (mkF m 70 #[.val (.ref x), .val (.int (Int32.ofNat a)), .val (.int (Int32.ofNat b)), .val (.int nm), .val (.int (Int32.ofNat k)), .val (.int (cs.getD k 0))] [(.int (Int32.ofNat a)), (.int (Int32.ofNat k))])) _
                              refine XS.icmpNo X17.here hx rfl (hb hby d_prog_14_method_15_code_70) rfl (tlt hq39).2.2.2 ?_
                              show Steps p.tables e below (T17.setTop (mkF m 73 #[.val (.ref x), .val (.int (Int32.ofNat a)), .val (.int (Int32.ofNat b)), .val (.int nm), .val (.int (Int32.ofNat k)), .val (.int (cs.getD k 0))] [])) _
                              refine XS.iload X17.here hx rfl (hb hby d_prog_14_method_15_code_73) rfl ?_
                              show Steps p.tables e below (T17.setTop (mkF m 75 #[.val (.ref x), .val (.int (Int32.ofNat a)), .val (.int (Int32.ofNat b)), .val (.int nm), .val (.int (Int32.ofNat k)), .val (.int (cs.getD k 0))] [(.int (cs.getD k 0))])) _
                              refine XS.bipush X17.here hx rfl (hb hby d_prog_14_method_15_code_75) ?_
                              show Steps p.tables e below (T17.setTop (mkF m 77 #[.val (.ref x), .val (.int (Int32.ofNat a)), .val (.int (Int32.ofNat b)), .val (.int nm), .val (.int (Int32.ofNat k)), .val (.int (cs.getD k 0))] [(.int (48 : Int32)), (.int (cs.getD k 0))])) _
                              refine XS.icmpNo X17.here hx rfl (hb hby d_prog_14_method_15_code_77) rfl (flt hq40).1 ?_
                              show Steps p.tables e below (T17.setTop (mkF m 80 #[.val (.ref x), .val (.int (Int32.ofNat a)), .val (.int (Int32.ofNat b)), .val (.int nm), .val (.int (Int32.ofNat k)), .val (.int (cs.getD k 0))] [])) _
                              refine XS.iload X17.here hx rfl (hb hby d_prog_14_method_15_code_80) rfl ?_
                              show Steps p.tables e below (T17.setTop (mkF m 82 #[.val (.ref x), .val (.int (Int32.ofNat a)), .val (.int (Int32.ofNat b)), .val (.int nm), .val (.int (Int32.ofNat k)), .val (.int (cs.getD k 0))] [(.int (cs.getD k 0))])) _
                              refine XS.bipush X17.here hx rfl (hb hby d_prog_14_method_15_code_82) ?_
                              show Steps p.tables e below (T17.setTop (mkF m 84 #[.val (.ref x), .val (.int (Int32.ofNat a)), .val (.int (Int32.ofNat b)), .val (.int nm), .val (.int (Int32.ofNat k)), .val (.int (cs.getD k 0))] [(.int (57 : Int32)), (.int (cs.getD k 0))])) _
                              refine XS.icmpNo X17.here hx rfl (hb hby d_prog_14_method_15_code_84) rfl (flt hq41).2.2.1 ?_
                              show Steps p.tables e below (T17.setTop (mkF m 87 #[.val (.ref x), .val (.int (Int32.ofNat a)), .val (.int (Int32.ofNat b)), .val (.int nm), .val (.int (Int32.ofNat k)), .val (.int (cs.getD k 0))] [])) _
                              refine XS.iconst X17.here hx rfl (hb hby d_prog_14_method_15_code_87) ?_
                              show Steps p.tables e below (T17.setTop (mkF m 88 #[.val (.ref x), .val (.int (Int32.ofNat a)), .val (.int (Int32.ofNat b)), .val (.int nm), .val (.int (Int32.ofNat k)), .val (.int (cs.getD k 0))] [(.int (1 : Int32))])) _
                              refine XS.goto X17.here hx rfl (pc0 := 88) (pc' := 92) rfl (hb hby d_prog_14_method_15_code_88) (by decide) (by decide) ?_
                              exact Steps.refl _)⟩
                      · exact ⟨_, (by rw [if_neg hq20, if_pos hq31, if_neg hq32, if_pos hq37, if_neg hq38, if_neg hq39]), c19.trans (by
                          show Steps p.tables e below (T17.setTop (mkF m 36 #[.val (.ref x), .val (.int (Int32.ofNat a)), .val (.int (Int32.ofNat b)), .val (.int nm), .val (.int (Int32.ofNat k)), .val (.int (cs.getD k 0))] [(.int (97 : Int32)), (.int (cs.getD k 0))])) _
                          refine XS.icmpNo X17.here hx rfl (hb hby d_prog_14_method_15_code_36) rfl (flt hq20).1 ?_
                          show Steps p.tables e below (T17.setTop (mkF m 39 #[.val (.ref x), .val (.int (Int32.ofNat a)), .val (.int (Int32.ofNat b)), .val (.int nm), .val (.int (Int32.ofNat k)), .val (.int (cs.getD k 0))] [])) _
                          refine XS.iload X17.here hx rfl (hb hby d_prog_14_method_15_code_39) rfl ?_
                          show Steps p.tables e below (T17.setTop (mkF m 41 #[.val (.ref x), .val (.int (Int32.ofNat a)), .val (.int (Int32.ofNat b)), .val (.int nm), .val (.int (Int32.ofNat k)), .val (.int (cs.getD k 0))] [(.int (cs.getD k 0))])) _
                          refine XS.bipush X17.here hx rfl (hb hby d_prog_14_method_15_code_41) ?_
                          show Steps p.tables e below (T17.setTop (mkF m 43 #[.val (.ref x), .val (.int (Int32.ofNat a)), .val (.int (Int32.ofNat b)), .val (.int nm), .val (.int (Int32.ofNat k)), .val (.int (cs.getD k 0))] [(.int (122 : Int32)), (.int (cs.getD k 0))])) _
                          refine XS.icmpNo X17.here hx rfl (hb hby d_prog_14_method_15_code_43) rfl (tlt hq31).2.2.2 ?_
                          show Steps p.tables e below (T17.setTop (mkF m 46 #[.val (.ref x), .val (.int (Int32.ofNat a)), .val (.int (Int32.ofNat b)), .val (.int nm), .val (.int (Int32.ofNat k)), .val (.int (cs.getD k 0))] [])) _
                          refine XS.iload X17.here hx rfl (hb hby d_prog_14_method_15_code_46) rfl ?_
                          show Steps p.tables e below (T17.setTop (mkF m 48 #[.val (.ref x), .val (.int (Int32.ofNat a)), .val (.int (Int32.ofNat b)), .val (.int nm), .val (.int (Int32.ofNat k)), .val (.int (cs.getD k 0))] [(.int (cs.getD k 0))])) _
                          refine XS.bipush X17.here hx rfl (hb hby d_prog_14_method_15_code_48) ?_
                          show Steps p.tables e below (T17.setTop (mkF m 50 #[.val (.ref x), .val (.int (Int32.ofNat a)), .val (.int (Int32.ofNat b)), .val (.int nm), .val (.int (Int32.ofNat k)), .val (.int (cs.getD k 0))] [(.int (65 : Int32)), (.int (cs.getD k 0))])) _
                          refine XS.icmpNo X17.here hx rfl (hb hby d_prog_14_method_15_code_50) rfl (flt hq32).1 ?_
                          show Steps p.tables e below (T17.setTop (mkF m 53 #[.val (.ref x), .val (.int (Int32.ofNat a)), .val (.int (Int32.ofNat b)), .val (.int nm), .val (.int (Int32.ofNat k)), .val (.int (cs.getD k 0))] [])) _
                          refine XS.iload X17.here hx rfl (hb hby d_prog_14_method_15_code_53) rfl ?_
                          show Steps p.tables e below (T17.setTop (mkF m 55 #[.val (.ref x), .val (.int (Int32.ofNat a)), .val (.int (Int32.ofNat b)), .val (.int nm), .val (.int (Int32.ofNat k)), .val (.int (cs.getD k 0))] [(.int (cs.getD k 0))])) _
                          refine XS.bipush X17.here hx rfl (hb hby d_prog_14_method_15_code_55) ?_
                          show Steps p.tables e below (T17.setTop (mkF m 57 #[.val (.ref x), .val (.int (Int32.ofNat a)), .val (.int (Int32.ofNat b)), .val (.int nm), .val (.int (Int32.ofNat k)), .val (.int (cs.getD k 0))] [(.int (90 : Int32)), (.int (cs.getD k 0))])) _
                          refine XS.icmpNo X17.here hx rfl (hb hby d_prog_14_method_15_code_57) rfl (tlt hq37).2.2.2 ?_
                          show Steps p.tables e below (T17.setTop (mkF m 60 #[.val (.ref x), .val (.int (Int32.ofNat a)), .val (.int (Int32.ofNat b)), .val (.int nm), .val (.int (Int32.ofNat k)), .val (.int (cs.getD k 0))] [])) _
                          refine XS.iload X17.here hx rfl (hb hby d_prog_14_method_15_code_60) rfl ?_
                          show Steps p.tables e below (T17.setTop (mkF m 62 #[.val (.ref x), .val (.int (Int32.ofNat a)), .val (.int (Int32.ofNat b)), .val (.int nm), .val (.int (Int32.ofNat k)), .val (.int (cs.getD k 0))] [(.int (cs.getD k 0))])) _
                          refine XS.bipush X17.here hx rfl (hb hby d_prog_14_method_15_code_62) ?_
                          show Steps p.tables e below (T17.setTop (mkF m 64 #[.val (.ref x), .val (.int (Int32.ofNat a)), .val (.int (Int32.ofNat b)), .val (.int nm), .val (.int (Int32.ofNat k)), .val (.int (cs.getD k 0))] [(.int (95 : Int32)), (.int (cs.getD k 0))])) _
                          refine XS.icmpNo X17.here hx rfl (hb hby d_prog_14_method_15_code_64) rfl (feq hq38).1 ?_
                          show Steps p.tables e below (T17.setTop (mkF m 67 #[.val (.ref x), .val (.int (Int32.ofNat a)), .val (.int (Int32.ofNat b)), .val (.int nm), .val (.int (Int32.ofNat k)), .val (.int (cs.getD k 0))] [])) _
                          refine XS.iload X17.here hx rfl (hb hby d_prog_14_method_15_code_67) rfl ?_
                          show Steps p.tables e below (T17.setTop (mkF m 69 #[.val (.ref x), .val (.int (Int32.ofNat a)), .val (.int (Int32.ofNat b)), .val (.int nm), .val (.int (Int32.ofNat k)), .val (.int (cs.getD k 0))] [(.int (Int32.ofNat k))])) _
                          refine XS.iloadN X17.here hx rfl (hb hby d_prog_14_method_15_code_69) rfl ?_
                          show Steps p.tables e below (T17.setTop (mkF m 70 #[.val (.ref x), .val (.int (Int32.ofNat a)), .val (.int (Int32.ofNat b)), .val (.int nm), .val (.int (Int32.ofNat k)), .val (.int (cs.getD k 0))] [(.int (Int32.ofNat a)), (.int (Int32.ofNat k))])) _
                          refine XS.icmpYes X17.here hx rfl (pc0 := 70) (pc' := 91) rfl (hb hby d_prog_14_method_15_code_70) rfl (flt hq39).2.2.2 (by decide) (by decide) ?_
                          show Steps p.tables e below (T17.setTop (mkF m 91 #[.val (.ref x), .val (.int (Int32.ofNat a)), .val (.int (Int32.ofNat b)), .val (.int nm), .val (.int (Int32.ofNat k)), .val (.int (cs.getD k 0))] [])) _
                          refine XS.iconst X17.here hx rfl (hb hby d_prog_14_method_15_code_91) ?_
                          exact Steps.refl _)⟩
                  · exact ⟨_, (by rw [if_neg hq20, if_pos hq31, if_neg hq32, if_neg hq37]), c19.trans (by
                      show Steps p.tables e below (T17.setTop (mkF m 36 #[.val (.ref x), .val (.int (Int32.ofNat a)), .val (.int (Int32.ofNat b)), .val (.int nm), .val (.int (Int32.ofNat k)), .val (.int (cs.getD k 0))] [(.int (97 : Int32)), (.int (cs.getD k 0))])) _
                      refine XS.icmpNo X17.here hx rfl (hb hby d_prog_14_method_15_code_36) rfl (flt hq20).1 ?_
                      show Steps p.tables e below (T17.setTop (mkF m 39 #[.val (.ref x), .val (.int (Int32.ofNat a)), .val (.int (Int32.ofNat b)), .val (.int nm), .val (.int (Int32.ofNat k)), .val (.int (cs.getD k 0))] [])) _
                      refine XS.iload X17.here hx rfl (hb hby d_prog_14_method_15_code_39) rfl ?_
                      show Steps p.tables e below (T17.setTop (mkF m 41 #[.val (.ref x), .val (.int (Int32.ofNat a)), .val (.int (Int32.ofNat b)), .val (.int nm), .val (.int (Int32.ofNat k)), .val (.int (cs.getD k 0))] [(.int (cs.getD k 0))])) _
                      refine XS.bipush X17.here hx rfl (hb hby d_prog_14_method_15_code_41) ?_
                      show Steps p.tables e below (T17.setTop (mkF m 43 #[.val (.ref x), .val (.int (Int32.ofNat a)), .val (.int (Int32.ofNat b)), .val (.int nm), .val (.int (Int32.ofNat k)), .val (.int (cs.getD k 0))] [(.int (122 : Int32)), (.int (cs.getD k 0))])) _
                      refine XS.icmpNo X17.here hx rfl (hb hby d_prog_14_method_15_code_43) rfl (tlt hq31).2.2.2 ?_
                      show Steps p.tables e below (T17.setTop (mkF m 46 #[.val (.ref x), .val (.int (Int32.ofNat a)), .val (.int (Int32.ofNat b)), .val (.int nm), .val (.int (Int32.ofNat k)), .val (.int (cs.getD k 0))] [])) _
                      refine XS.iload X17.here hx rfl (hb hby d_prog_14_method_15_code_46) rfl ?_
                      show Steps p.tables e below (T17.setTop (mkF m 48 #[.val (.ref x), .val (.int (Int32.ofNat a)), .val (.int (Int32.ofNat b)), .val (.int nm), .val (.int (Int32.ofNat k)), .val (.int (cs.getD k 0))] [(.int (cs.getD k 0))])) _
                      refine XS.bipush X17.here hx rfl (hb hby d_prog_14_method_15_code_48) ?_
                      show Steps p.tables e below (T17.setTop (mkF m 50 #[.val (.ref x), .val (.int (Int32.ofNat a)), .val (.int (Int32.ofNat b)), .val (.int nm), .val (.int (Int32.ofNat k)), .val (.int (cs.getD k 0))] [(.int (65 : Int32)), (.int (cs.getD k 0))])) _
                      refine XS.icmpNo X17.here hx rfl (hb hby d_prog_14_method_15_code_50) rfl (flt hq32).1 ?_
                      show Steps p.tables e below (T17.setTop (mkF m 53 #[.val (.ref x), .val (.int (Int32.ofNat a)), .val (.int (Int32.ofNat b)), .val (.int nm), .val (.int (Int32.ofNat k)), .val (.int (cs.getD k 0))] [])) _
                      refine XS.iload X17.here hx rfl (hb hby d_prog_14_method_15_code_53) rfl ?_
                      show Steps p.tables e below (T17.setTop (mkF m 55 #[.val (.ref x), .val (.int (Int32.ofNat a)), .val (.int (Int32.ofNat b)), .val (.int nm), .val (.int (Int32.ofNat k)), .val (.int (cs.getD k 0))] [(.int (cs.getD k 0))])) _
                      refine XS.bipush X17.here hx rfl (hb hby d_prog_14_method_15_code_55) ?_
                      show Steps p.tables e below (T17.setTop (mkF m 57 #[.val (.ref x), .val (.int (Int32.ofNat a)), .val (.int (Int32.ofNat b)), .val (.int nm), .val (.int (Int32.ofNat k)), .val (.int (cs.getD k 0))] [(.int (90 : Int32)), (.int (cs.getD k 0))])) _
                      refine XS.icmpYes X17.here hx rfl (pc0 := 57) (pc' := 87) rfl (hb hby d_prog_14_method_15_code_57) rfl (flt hq37).2.2.2 (by decide) (by decide) ?_
                      show Steps p.tables e below (T17.setTop (mkF m 87 #[.val (.ref x), .val (.int (Int32.ofNat a)), .val (.int (Int32.ofNat b)), .val (.int nm), .val (.int (Int32.ofNat k)), .val (.int (cs.getD k 0))] [])) _
                      refine XS.iconst X17.here hx rfl (hb hby d_prog_14_method_15_code_87) ?_
                      show Steps p.tables e below (T17.setTop (mkF m 88 #[.val (.ref x), .val (.int (Int32.ofNat a)), .val (.int (Int32.ofNat b)), .val (.int nm), .val (.int (Int32.ofNat k)), .val (.int (cs.getD k 0))] [(.int (1 : Int32))])) _
                      refine XS.goto X17.here hx rfl (pc0 := 88) (pc' := 92) rfl (hb hby d_prog_14_method_15_code_88) (by decide) (by decide) ?_
                      exact Steps.refl _)⟩
              · exact ⟨_, (by rw [if_neg hq20, if_neg hq31]), c19.trans (by
                  show Steps p.tables e below (T17.setTop (mkF m 36 #[.val (.ref x), .val (.int (Int32.ofNat a)), .val (.int (Int32.ofNat b)), .val (.int nm), .val (.int (Int32.ofNat k)), .val (.int (cs.getD k 0))] [(.int (97 : Int32)), (.int (cs.getD k 0))])) _
                  refine XS.icmpNo X17.here hx rfl (hb hby d_prog_14_method_15_code_36) rfl (flt hq20).1 ?_
                  show Steps p.tables e below (T17.setTop (mkF m 39 #[.val (.ref x), .val (.int (Int32.ofNat a)), .val (.int (Int32.ofNat b)), .val (.int nm), .val (.int (Int32.ofNat k)), .val (.int (cs.getD k 0))] [])) _
                  refine XS.iload X17.here hx rfl (hb hby d_prog_14_method_15_code_39) rfl ?_
                  show Steps p.tables e below (T17.setTop (mkF m 41 #[.val (.ref x), .val (.int (Int32.ofNat a)), .val (.int (Int32.ofNat b)), .val (.int nm), .val (.int (Int32.ofNat k)), .val (.int (cs.getD k 0))] [(.int (cs.getD k 0))])) _
                  refine XS.bipush X17.here hx rfl (hb hby d_prog_14_method_15_code_41) ?_
                  show Steps p.tables e below (T17.setTop (mkF m 43 #[.val (.ref x), .val (.int (Int32.ofNat a)), .val (.int (Int32.ofNat b)), .val (.int nm), .val (.int (Int32.ofNat k)), .val (.int (cs.getD k 0))] [(.int (122 : Int32)), (.int (cs.getD k 0))])) _
                  refine XS.icmpYes X17.here hx rfl (pc0 := 43) (pc' := 87) rfl (hb hby d_prog_14_method_15_code_43) rfl (flt hq31).2.2.2 (by decide) (by decide) ?_
                  show Steps p.tables e below (T17.setTop (mkF m 87 #[.val (.ref x), .val (.int (Int32.ofNat a)), .val (.int (Int32.ofNat b)), .val (.int nm), .val (.int (Int32.ofNat k)), .val (.int (cs.getD k 0))] [])) _
                  refine XS.iconst X17.here hx rfl (hb hby d_prog_14_method_15_code_87) ?_
                  show Steps p.tables e below (T17.setTop (mkF m 88 #[.val (.ref x), .val (.int (Int32.ofNat a)), .val (.int (Int32.ofNat b)), .val (.int nm), .val (.int (Int32.ofNat k)), .val (.int (cs.getD k 0))] [(.int (1 : Int32))])) _
                  refine XS.goto X17.here hx rfl (pc0 := 88) (pc' := 92) rfl (hb hby d_prog_14_method_15_code_88) (by decide) (by decide) ?_
                  exact Steps.refl _)⟩
          have c44 : Steps p.tables e below S0 (T17.setTop (mkF m 14 #[.val (.ref x), .val (.int (Int32.ofNat a)), .val (.int (Int32.ofNat b)), .val (.int nx), .val (.int ((Int32.ofNat k) + (1 : Int32))), .val (.int (cs.getD k 0))] [])) := c43.trans (by
            show Steps p.tables e below (T17.setTop (mkF m 92 #[.val (.ref x), .val (.int (Int32.ofNat a)), .val (.int (Int32.ofNat b)), .val (.int nm), .val (.int (Int32.ofNat k)), .val (.int (cs.getD k 0))] [(.int nx)])) _
            refine XS.istoreN X17.here hx rfl (hb hby d_prog_14_method_15_code_92) rfl (l' := #[.val (.ref x), .val (.int (Int32.ofNat a)), .val (.int (Int32.ofNat b)), .val (.int nx), .val (.int (Int32.ofNat k)), .val (.int (cs.getD k 0))]) rfl ?_
            show Steps p.tables e below (T17.setTop (mkF m 93 #[.val (.ref x), .val (.int (Int32.ofNat a)), .val (.int (Int32.ofNat b)), .val (.int nx), .val (.int (Int32.ofNat k)), .val (.int (cs.getD k 0))] [])) _
            refine XS.iinc X17.here hx rfl (hb hby d_prog_14_method_15_code_93) rfl (l' := #[.val (.ref x), .val (.int (Int32.ofNat a)), .val (.int (Int32.ofNat b)), .val (.int nx), .val (.int ((Int32.ofNat k) + (1 : Int32))), .val (.int (cs.getD k 0))]) rfl ?_
            show Steps p.tables e below (T17.setTop (mkF m 96 #[.val (.ref x), .val (.int (Int32.ofNat a)), .val (.int (Int32.ofNat b)), .val (.int nx), .val (.int ((Int32.ofNat k) + (1 : Int32))), .val (.int (cs.getD k 0))] [])) _
            refine XS.goto X17.here hx rfl (pc0 := 96) (pc' := 14) rfl (hb hby d_prog_14_method_15_code_96) (by decide) (by decide) ?_
            exact Steps.refl _)
          have e1 : Int32.ofNat k + (1 : Int32) = Int32.ofNat (k + 1) := (inc_ofNat k).symm
          rw [e1] at c44
          have tm : TF nx (own_ok (cs.getD k 0) (if k = a then 1 else 0)) := own_tm (by omega) (by omega) (by omega) hnx
          refine ih (k + 1) nx _ _ _ (by omega) (by omega) (by omega) (Or.inr ⟨_, rfl, rfl⟩) ?_ N17 X17 eq17 c44
          rcases hI with ⟨f1, f2, f3, f4⟩ | ⟨f1, f2⟩
          · rcases tm with ⟨g1, g2⟩ | ⟨g1, g2⟩
            · exact Or.inl ⟨g1, f2, by omega, fun j q1 q2 => by
                by_cases hj : j = k
                · rw [hj]; exact g2
                · exact f4 j q1 (by omega)⟩
            · exact Or.inr ⟨g1, fun q => g2 (q.2 k (by omega) (by omega))⟩
          · exact absurd f1 hq11
        · have c45 : Steps p.tables e below S0 (T.setTop (mkF m 99 #[.val (.ref x), .val (.int (Int32.ofNat a)), .val (.int (Int32.ofNat b)), .val (.int nm), .val (.int (Int32.ofNat k)), o] [])) := c13.trans (by
            show Steps p.tables e below (T.setTop (mkF m 21 #[.val (.ref x), .val (.int (Int32.ofNat a)), .val (.int (Int32.ofNat b)), .val (.int nm), .val (.int (Int32.ofNat k)), o] [(.int (Int32.ofNat b)), (.int (Int32.ofNat k))])) _
            refine XS.icmpYes X.here hx rfl (pc0 := 21) (pc' := 99) rfl (hb hby d_prog_14_method_15_code_21) rfl (flt hq14).2.1 (by decide) (by decide) ?_
            exact Steps.refl _)
          have nb : ¬ k < b := fun y => hq14 ((own_ofN_lt (by omega) (by omega)).mpr y)
          have tr : TF nm (own_name cs a b) := hI.elim (fun y => Or.inl ⟨y.1, y.2.1, fun j q1 q2 => y.2.2.2 j q1 (by omega)⟩) (fun y => absurd y.1 hq11)
          exact ⟨nm, _, _, T, _, tr, NN, X, eT, c45⟩
  have h00 : (nm0 = 1 ∧ a < b ∧ a ≤ b ∧ ∀ j, a ≤ j → j < a → own_ok (cs.getD j 0) (if j = a then 1 else 0)) ∨ (nm0 = 0 ∧ ¬ own_name cs a b) := by
    rw [hnm0]
    by_cases hab : a < b
    · rw [if_pos ((own_ofN_lt (by omega) (by omega)).mpr hab)]
      exact Or.inl ⟨rfl, hab, Nat.le_of_lt hab, fun j q1 q2 => absurd q1 (Nat.not_le.mpr q2)⟩
    · rw [if_neg fun z => hab ((own_ofN_lt (by omega) (by omega)).mp z)]
      exact Or.inr ⟨rfl, fun q => hab q.1⟩
  obtain ⟨r, i9, o9, T9, l9, tr9, N9, X9, e9, c9⟩ := lp _ a nm0 _ _ _ rfl (Nat.le_refl _) (by omega) (Or.inl rfl) h00 N0 X0 e0 c5
  have c46 : Steps p.tables e below S0 (T9.setTop (mkF m 100 #[.val (.ref x), .val (.int (Int32.ofNat a)), .val (.int (Int32.ofNat b)), .val (.int r), .val (.int i9), o9] [(.int r)])) := c9.trans (by
    show Steps p.tables e below (T9.setTop (mkF m 99 #[.val (.ref x), .val (.int (Int32.ofNat a)), .val (.int (Int32.ofNat b)), .val (.int r), .val (.int i9), o9] [])) _
    refine XS.iloadN X9.here hx rfl (hb hby d_prog_14_method_15_code_99) rfl ?_
    exact Steps.refl _)
  obtain ⟨fs, hr, hrun, hended, hW, hsame⟩ := X9.leave (v := some (.int r)) (fun h => by rw [Bd.returns] at h; cases h)
  refine ⟨_, _, c46.trans (retOut X9 hx Bd.returns (own_nb (own_b tr9)) (Or.inl ⟨rfl, by simp, _, rfl⟩) (hb hby d_prog_14_method_15_code_100) hr), hrun, hended, _, _, rfl, ?_, ⟨_, rfl⟩, hW, hsame.mono (by decide) (by decide)⟩
  show Qnm Z cs a b h0 n0 _ T9.heap _
  rw [e9]
  exact ⟨_, rfl, tr9, N9, rfl⟩

theorem own_four (c0 c1 c2 c3 : Int32) {a b : Nat} (ha : a < 5) (hb : b < 5) (hab : a < b) (h0 : own_in 0 a b c0) (h1 : own_in 1 a b c1) (h2 : own_in 2 a b c2) (h3 : own_in 3 a b c3) : own_name [c0, c1, c2, c3] a b := by
  refine ⟨hab, fun k q1 q2 => ?_⟩
  have hk : k = 0 ∨ k = 1 ∨ k = 2 ∨ k = 3 := by omega
  rcases hk with rfl | rfl | rfl | rfl
  · exact h0.elim (fun z => absurd z (by omega)) (fun z => z.elim (fun y => absurd q2 y) id)
  · exact h1.elim (fun z => absurd z (by omega)) (fun z => z.elim (fun y => absurd q2 y) id)
  · exact h2.elim (fun z => absurd z (by omega)) (fun z => z.elim (fun y => absurd q2 y) id)
  · exact h3.elim (fun z => absurd z (by omega)) (fun z => z.elim (fun y => absurd q2 y) id)
theorem own_notk {cs : List Int32} {a b k : Nat} {c : Int32} (hc : cs.getD k 0 = c) (h : ¬ own_in k a b c) : ¬ own_name cs a b := fun q => h (by
  by_cases h1 : k < a
  · exact Or.inl h1
  · by_cases h2 : k < b
    · exact Or.inr (Or.inr (hc ▸ q.2 k (by omega) h2))
    · exact Or.inr (Or.inl h2))
def Q0 (Z : State) (h0 : Heap) (n0 : Nat) (v : Option Value) (h : Heap) (L : List Loc) : Prop := v = some (.int 1) ∧ Fr n0 L

theorem pd_oaCcV : parseMethodDescriptor "([C)V" = some ⟨[(.array .char)], none⟩ := by decide +kernel
theorem pd_oIIICcZ : parseMethodDescriptor "(IIIC)Z" = some ⟨[.int, .int, .int, .char], some .boolean⟩ := by decide +kernel
theorem pd_oLjavaslangsStringeIIcZ : parseMethodDescriptor "(Ljava/lang/String;II)Z" = some ⟨[(.object "java/lang/String"), .int, .int], some .boolean⟩ := by decide +kernel
theorem ef_rm0 (m : MethodId) (x0 : Int32) (x1 : Int32) (x2 : Int32) (x3 : Int32) (x4 : Int32) (x5 : Int32) : entryFrame m #[(.int x0), (.int x1), (.int x2), (.int x3), (.int x4), (.int x5)] maxLocals = mkF m 0 #[.val (.int x0), .val (.int x1), .val (.int x2), .val (.int x3), .val (.int x4), .val (.int x5), .unset, .unset, .unset, .unset, .unset, .unset] [] := by first | (simp [entryFrame, mkF, argsToLocals, Value.category, maxLocals]; done) | rfl
set_option maxRecDepth 65536 in
set_option maxHeartbeats 40000000 in
theorem rm0 (l : Launch) (Z : State) (a0 : Array Value) (hw : ∀ d ∈ tables_1, d.before a0 Z = true) (ws : List Jvm.Cond) (p0 p1 p2 p3 p4 p5 : Int32) (G1 : Int32) (G3 : Value) (h0 : Heap) (n0 : Nat) (Z0 : n0 ≤ h0.size) (O2 : Sta Z Z.heap "java/lang/String" "COMPACT_STRINGS" "Z" (.int G1)) (P5 : ¬ G1 = 0) (X00 : Old Z n0 h0) (O4 : Sta Z Z.heap "jdk/internal/util/Preconditions" "SIOOBE_FORMATTER" "Ljava/util/function/BiFunction;" G3) (rG3 : G3.isRef = true) :
    MetFree l x (head1 (Jvm.Cond.code x code maxLocals ret :: ws) room_1) (fun aa U => aa = #[(.int p0), (.int p1), (.int p2), (.int p3), (.int p4), (.int p5)] ∧ Z.Warmed39 U.vm ∧ U.heap = h0) (fun _ _ _ _ _ => True) (fun _ U o U' => ∃ v L, o = .returned v ∧ Q0 Z  h0 n0 v U'.heap L ∧ FrameEnd U o U' L room_1.cells room_1.slots) := by
  refine MetFree.of_bodySF (plainFor_of_name pn_com_example_libroute_libroute_pattern_RoutePatternIsNamePinLaw) hisR ?_
  intro p e s m args below meth c s₁ Bd hml0 hP hK
  obtain ⟨rfl, hZ, hh⟩ := hP
  have hx := Bd.exec
  have hby := Bd.bytes
  have hml : c.maxLocals = 12 := hml0
  have hown : s.vm.findClass "com/example/libroute/libroute/pattern/RoutePatternIsNamePinLaw" = some m.cls := findClass_of_methodNamed Bd.named
  have hnm := (name_of_methodNamed Bd.named Bd.method).1
  have X0 : Stand p l e room_1 s m #[(.int p0), (.int p1), (.int p2), (.int p3), (.int p4), (.int p5)] below meth c s₁ [] 0 0 := Stand.of_body Bd
  have e0 : s₁.heap = h0 := by rw [← hh, Bd.state]; rfl
  have N0 := Fr.nil n0
  have K0 := Keep.refl h0 []
  obtain ⟨S0, hS0⟩ : ∃ z, z = s₁.setTop (entryFrame m #[(.int p0), (.int p1), (.int p2), (.int p3), (.int p4), (.int p5)] maxLocals) := ⟨_, rfl⟩
  rw [← hS0]
  have c0 : Steps p.tables e below S0 (s₁.setTop (mkF m 0 #[.val (.int p0), .val (.int p1), .val (.int p2), .val (.int p3), .val (.int p4), .val (.int p5), .unset, .unset, .unset, .unset, .unset, .unset] [])) := by
    rw [hS0]; exact castTop (ef_rm0 m p0 p1 p2 p3 p4 p5) (Steps.refl _)
  have c1 : Steps p.tables e below S0 (s₁.setTop (mkF m 1 #[.val (.int p0), .val (.int p1), .val (.int p2), .val (.int p3), .val (.int p4), .val (.int p5), .unset, .unset, .unset, .unset, .unset, .unset] [(.int (4 : Int32))])) := c0.trans (by
    show Steps p.tables e below (s₁.setTop (mkF m 0 #[.val (.int p0), .val (.int p1), .val (.int p2), .val (.int p3), .val (.int p4), .val (.int p5), .unset, .unset, .unset, .unset, .unset, .unset] [])) _
    refine XS.iconst X0.here hx rfl (hb hby at_0) ?_
    exact Steps.refl _)
  obtain ⟨T2, h2, k2, X2, e2, E2, A2, st2⟩ := newP X0 hx hZ (hw _ (List.mem_of_getElem? (i := 0) rfl)) e0 (g := (mkF m 1 #[.val (.int p0), .val (.int p1), .val (.int p2), .val (.int p3), .val (.int p4), .val (.int p5), .unset, .unset, .unset, .unset, .unset, .unset] [(.int (4 : Int32))])) rfl (hb hby at_1) rfl (by decide) (cap := 4) (by decide) (by decide) (by decide) (by decide)
  obtain ⟨b2, g2⟩ : ∃ z, z = h0.size := ⟨_, rfl⟩
  rw [← g2] at A2 st2
  have c3 : Steps p.tables e below S0 (T2.setTop (mkF m 3 #[.val (.int p0), .val (.int p1), .val (.int p2), .val (.int p3), .val (.int p4), .val (.int p5), .unset, .unset, .unset, .unset, .unset, .unset] [(.ref b2)])) := c1.trans (st2 _ (Steps.refl _))
  have z2 : n0 ≤ h2.size := Nat.le_trans Z0 E2.1
  have K2 := K0.ext E2
  have V2 : Arv Z h2 b2 k2 .char (4 : Int32) [(.int (0 : Int32)), (.int (0 : Int32)), (.int (0 : Int32)), (.int (0 : Int32))] (.int (0 : Int32)) := (Arv.new A2 (by decide)).pad (pad_rep [] (.int (0 : Int32)) 4)
  have lt_b2 : b2 < h2.size := V2.lt
  have c4 : Steps p.tables e below S0 (T2.setTop (mkF m 14 #[.val (.int p0), .val (.int p1), .val (.int p2), .val (.int p3), .val (.int p4), .val (.int p5), .val (.ref b2), .unset, .unset, .unset, .unset, .unset] [(.int ((p0 &&& (255 : Int32)).toUInt32.toUInt16.toUInt32.toInt32)), (.int (0 : Int32)), (.ref b2)])) := c3.trans (by
    show Steps p.tables e below (T2.setTop (mkF m 3 #[.val (.int p0), .val (.int p1), .val (.int p2), .val (.int p3), .val (.int p4), .val (.int p5), .unset, .unset, .unset, .unset, .unset, .unset] [(.ref b2)])) _
    refine XS.astore X2.here hx rfl (hb hby at_3) rfl rfl (l' := #[.val (.int p0), .val (.int p1), .val (.int p2), .val (.int p3), .val (.int p4), .val (.int p5), .val (.ref b2), .unset, .unset, .unset, .unset, .unset]) rfl ?_
    show Steps p.tables e below (T2.setTop (mkF m 5 #[.val (.int p0), .val (.int p1), .val (.int p2), .val (.int p3), .val (.int p4), .val (.int p5), .val (.ref b2), .unset, .unset, .unset, .unset, .unset] [])) _
    refine XS.aload X2.here hx rfl (hb hby at_5) rfl rfl ?_
    show Steps p.tables e below (T2.setTop (mkF m 7 #[.val (.int p0), .val (.int p1), .val (.int p2), .val (.int p3), .val (.int p4), .val (.int p5), .val (.ref b2), .unset, .unset, .unset, .unset, .unset] [(.ref b2)])) _
    refine XS.iconst X2.here hx rfl (hb hby at_7) ?_
    show Steps p.tables e below (T2.setTop (mkF m 8 #[.val (.int p0), .val (.int p1), .val (.int p2), .val (.int p3), .val (.int p4), .val (.int p5), .val (.ref b2), .unset, .unset, .unset, .unset, .unset] [(.int (0 : Int32)), (.ref b2)])) _
    refine XS.iloadN X2.here hx rfl (hb hby at_8) rfl ?_
    show Steps p.tables e below (T2.setTop (mkF m 9 #[.val (.int p0), .val (.int p1), .val (.int p2), .val (.int p3), .val (.int p4), .val (.int p5), .val (.ref b2), .unset, .unset, .unset, .unset, .unset] [(.int p0), (.int (0 : Int32)), (.ref b2)])) _
    refine XS.sipush X2.here hx rfl (hb hby at_9) ?_
    show Steps p.tables e below (T2.setTop (mkF m 12 #[.val (.int p0), .val (.int p1), .val (.int p2), .val (.int p3), .val (.int p4), .val (.int p5), .val (.ref b2), .unset, .unset, .unset, .unset, .unset] [(.int (255 : Int32)), (.int p0), (.int (0 : Int32)), (.ref b2)])) _
    refine XS.iand X2.here hx rfl (hb hby at_12) rfl ?_
    show Steps p.tables e below (T2.setTop (mkF m 13 #[.val (.int p0), .val (.int p1), .val (.int p2), .val (.int p3), .val (.int p4), .val (.int p5), .val (.ref b2), .unset, .unset, .unset, .unset, .unset] [(.int (p0 &&& (255 : Int32))), (.int (0 : Int32)), (.ref b2)])) _
    refine XS.i2c X2.here hx rfl (hb hby at_13) rfl ?_
    exact Steps.refl _)
  obtain ⟨cl5, Ar5, q5, S5, Nn5, Ha5, G5⟩ := id V2
  obtain ⟨T5, h5, X5, e5, W5, st5⟩ := stC X2 hx hZ e2 Ar5 (j := (0 : Int32)) (inb_of S5 ⟨by decide, by decide⟩) (g := (mkF m 14 #[.val (.int p0), .val (.int p1), .val (.int p2), .val (.int p3), .val (.int p4), .val (.int p5), .val (.ref b2), .unset, .unset, .unset, .unset, .unset] [(.int ((p0 &&& (255 : Int32)).toUInt32.toUInt16.toUInt32.toInt32)), (.int (0 : Int32)), (.ref b2)])) rfl rfl (hb hby at_14)
  have V5 := Arv.set Ar5 q5 S5 Nn5 Ha5 G5 (fits_nar_char _) W5 0 rfl (Nat.le_of_ble_eq_true rfl)
  have c6 : Steps p.tables e below S0 (T5.setTop (mkF m 15 #[.val (.int p0), .val (.int p1), .val (.int p2), .val (.int p3), .val (.int p4), .val (.int p5), .val (.ref b2), .unset, .unset, .unset, .unset, .unset] [])) := c4.trans (st5 _ (Steps.refl _))
  have N5 := Fr.snoc X5 N0 (Nat.le_trans Z0 (Nat.le_trans K0.1 (Nat.le_of_eq g2.symm)))
  have z5 : n0 ≤ h5.size := Nat.le_trans z2 (Keep.of_wr W5).1
  have K5 := K2.wr W5 (Or.inr (Nat.le_trans K0.1 (Nat.le_of_eq g2.symm)))
  have c7 : Steps p.tables e below S0 (T5.setTop (mkF m 24 #[.val (.int p0), .val (.int p1), .val (.int p2), .val (.int p3), .val (.int p4), .val (.int p5), .val (.ref b2), .unset, .unset, .unset, .unset, .unset] [(.int ((p1 &&& (255 : Int32)).toUInt32.toUInt16.toUInt32.toInt32)), (.int (1 : Int32)), (.ref b2)])) := c6.trans (by
    show Steps p.tables e below (T5.setTop (mkF m 15 #[.val (.int p0), .val (.int p1), .val (.int p2), .val (.int p3), .val (.int p4), .val (.int p5), .val (.ref b2), .unset, .unset, .unset, .unset, .unset] [])) _
    refine XS.aload X5.here hx rfl (hb hby at_15) rfl rfl ?_
    show Steps p.tables e below (T5.setTop (mkF m 17 #[.val (.int p0), .val (.int p1), .val (.int p2), .val (.int p3), .val (.int p4), .val (.int p5), .val (.ref b2), .unset, .unset, .unset, .unset, .unset] [(.ref b2)])) _
    refine XS.iconst X5.here hx rfl (hb hby at_17) ?_
    show Steps p.tables e below (T5.setTop (mkF m 18 #[.val (.int p0), .val (.int p1), .val (.int p2), .val (.int p3), .val (.int p4), .val (.int p5), .val (.ref b2), .unset, .unset, .unset, .unset, .unset] [(.int (1 : Int32)), (.ref b2)])) _
    refine XS.iloadN X5.here hx rfl (hb hby at_18) rfl ?_
    show Steps p.tables e below (T5.setTop (mkF m 19 #[.val (.int p0), .val (.int p1), .val (.int p2), .val (.int p3), .val (.int p4), .val (.int p5), .val (.ref b2), .unset, .unset, .unset, .unset, .unset] [(.int p1), (.int (1 : Int32)), (.ref b2)])) _
    refine XS.sipush X5.here hx rfl (hb hby at_19) ?_
    show Steps p.tables e below (T5.setTop (mkF m 22 #[.val (.int p0), .val (.int p1), .val (.int p2), .val (.int p3), .val (.int p4), .val (.int p5), .val (.ref b2), .unset, .unset, .unset, .unset, .unset] [(.int (255 : Int32)), (.int p1), (.int (1 : Int32)), (.ref b2)])) _
    refine XS.iand X5.here hx rfl (hb hby at_22) rfl ?_
    show Steps p.tables e below (T5.setTop (mkF m 23 #[.val (.int p0), .val (.int p1), .val (.int p2), .val (.int p3), .val (.int p4), .val (.int p5), .val (.ref b2), .unset, .unset, .unset, .unset, .unset] [(.int (p1 &&& (255 : Int32))), (.int (1 : Int32)), (.ref b2)])) _
    refine XS.i2c X5.here hx rfl (hb hby at_23) rfl ?_
    exact Steps.refl _)
  obtain ⟨cl8, Ar8, q8, S8, Nn8, Ha8, G8⟩ := id V5
  obtain ⟨T8, h8, X8, e8, W8, st8⟩ := stC X5 hx hZ e5 Ar8 (j := (1 : Int32)) (inb_of S8 ⟨by decide, by decide⟩) (g := (mkF m 24 #[.val (.int p0), .val (.int p1), .val (.int p2), .val (.int p3), .val (.int p4), .val (.int p5), .val (.ref b2), .unset, .unset, .unset, .unset, .unset] [(.int ((p1 &&& (255 : Int32)).toUInt32.toUInt16.toUInt32.toInt32)), (.int (1 : Int32)), (.ref b2)])) rfl rfl (hb hby at_24)
  have V8 := Arv.set Ar8 q8 S8 Nn8 Ha8 G8 (fits_nar_char _) W8 1 rfl (Nat.le_of_ble_eq_true rfl)
  have c9 : Steps p.tables e below S0 (T8.setTop (mkF m 25 #[.val (.int p0), .val (.int p1), .val (.int p2), .val (.int p3), .val (.int p4), .val (.int p5), .val (.ref b2), .unset, .unset, .unset, .unset, .unset] [])) := c7.trans (st8 _ (Steps.refl _))
  have N8 := Fr.snoc X8 N5 (Nat.le_trans Z0 (Nat.le_trans K0.1 (Nat.le_of_eq g2.symm)))
  have z8 : n0 ≤ h8.size := Nat.le_trans z5 (Keep.of_wr W8).1
  have K8 := K5.wr W8 (Or.inr (Nat.le_trans K0.1 (Nat.le_of_eq g2.symm)))
  have c10 : Steps p.tables e below S0 (T8.setTop (mkF m 34 #[.val (.int p0), .val (.int p1), .val (.int p2), .val (.int p3), .val (.int p4), .val (.int p5), .val (.ref b2), .unset, .unset, .unset, .unset, .unset] [(.int ((p2 &&& (255 : Int32)).toUInt32.toUInt16.toUInt32.toInt32)), (.int (2 : Int32)), (.ref b2)])) := c9.trans (by
    show Steps p.tables e below (T8.setTop (mkF m 25 #[.val (.int p0), .val (.int p1), .val (.int p2), .val (.int p3), .val (.int p4), .val (.int p5), .val (.ref b2), .unset, .unset, .unset, .unset, .unset] [])) _
    refine XS.aload X8.here hx rfl (hb hby at_25) rfl rfl ?_
    show Steps p.tables e below (T8.setTop (mkF m 27 #[.val (.int p0), .val (.int p1), .val (.int p2), .val (.int p3), .val (.int p4), .val (.int p5), .val (.ref b2), .unset, .unset, .unset, .unset, .unset] [(.ref b2)])) _
    refine XS.iconst X8.here hx rfl (hb hby at_27) ?_
    show Steps p.tables e below (T8.setTop (mkF m 28 #[.val (.int p0), .val (.int p1), .val (.int p2), .val (.int p3), .val (.int p4), .val (.int p5), .val (.ref b2), .unset, .unset, .unset, .unset, .unset] [(.int (2 : Int32)), (.ref b2)])) _
    refine XS.iloadN X8.here hx rfl (hb hby at_28) rfl ?_
    show Steps p.tables e below (T8.setTop (mkF m 29 #[.val (.int p0), .val (.int p1), .val (.int p2), .val (.int p3), .val (.int p4), .val (.int p5), .val (.ref b2), .unset, .unset, .unset, .unset, .unset] [(.int p2), (.int (2 : Int32)), (.ref b2)])) _
    refine XS.sipush X8.here hx rfl (hb hby at_29) ?_
    show Steps p.tables e below (T8.setTop (mkF m 32 #[.val (.int p0), .val (.int p1), .val (.int p2), .val (.int p3), .val (.int p4), .val (.int p5), .val (.ref b2), .unset, .unset, .unset, .unset, .unset] [(.int (255 : Int32)), (.int p2), (.int (2 : Int32)), (.ref b2)])) _
    refine XS.iand X8.here hx rfl (hb hby at_32) rfl ?_
    show Steps p.tables e below (T8.setTop (mkF m 33 #[.val (.int p0), .val (.int p1), .val (.int p2), .val (.int p3), .val (.int p4), .val (.int p5), .val (.ref b2), .unset, .unset, .unset, .unset, .unset] [(.int (p2 &&& (255 : Int32))), (.int (2 : Int32)), (.ref b2)])) _
    refine XS.i2c X8.here hx rfl (hb hby at_33) rfl ?_
    exact Steps.refl _)
  obtain ⟨cl11, Ar11, q11, S11, Nn11, Ha11, G11⟩ := id V8
  obtain ⟨T11, h11, X11, e11, W11, st11⟩ := stC X8 hx hZ e8 Ar11 (j := (2 : Int32)) (inb_of S11 ⟨by decide, by decide⟩) (g := (mkF m 34 #[.val (.int p0), .val (.int p1), .val (.int p2), .val (.int p3), .val (.int p4), .val (.int p5), .val (.ref b2), .unset, .unset, .unset, .unset, .unset] [(.int ((p2 &&& (255 : Int32)).toUInt32.toUInt16.toUInt32.toInt32)), (.int (2 : Int32)), (.ref b2)])) rfl rfl (hb hby at_34)
  have V11 := Arv.set Ar11 q11 S11 Nn11 Ha11 G11 (fits_nar_char _) W11 2 rfl (Nat.le_of_ble_eq_true rfl)
  have c12 : Steps p.tables e below S0 (T11.setTop (mkF m 35 #[.val (.int p0), .val (.int p1), .val (.int p2), .val (.int p3), .val (.int p4), .val (.int p5), .val (.ref b2), .unset, .unset, .unset, .unset, .unset] [])) := c10.trans (st11 _ (Steps.refl _))
  have N11 := Fr.snoc X11 N8 (Nat.le_trans Z0 (Nat.le_trans K0.1 (Nat.le_of_eq g2.symm)))
  have z11 : n0 ≤ h11.size := Nat.le_trans z8 (Keep.of_wr W11).1
  have K11 := K8.wr W11 (Or.inr (Nat.le_trans K0.1 (Nat.le_of_eq g2.symm)))
  have c13 : Steps p.tables e below S0 (T11.setTop (mkF m 44 #[.val (.int p0), .val (.int p1), .val (.int p2), .val (.int p3), .val (.int p4), .val (.int p5), .val (.ref b2), .unset, .unset, .unset, .unset, .unset] [(.int ((p3 &&& (255 : Int32)).toUInt32.toUInt16.toUInt32.toInt32)), (.int (3 : Int32)), (.ref b2)])) := c12.trans (by
    show Steps p.tables e below (T11.setTop (mkF m 35 #[.val (.int p0), .val (.int p1), .val (.int p2), .val (.int p3), .val (.int p4), .val (.int p5), .val (.ref b2), .unset, .unset, .unset, .unset, .unset] [])) _
    refine XS.aload X11.here hx rfl (hb hby at_35) rfl rfl ?_
    show Steps p.tables e below (T11.setTop (mkF m 37 #[.val (.int p0), .val (.int p1), .val (.int p2), .val (.int p3), .val (.int p4), .val (.int p5), .val (.ref b2), .unset, .unset, .unset, .unset, .unset] [(.ref b2)])) _
    refine XS.iconst X11.here hx rfl (hb hby at_37) ?_
    show Steps p.tables e below (T11.setTop (mkF m 38 #[.val (.int p0), .val (.int p1), .val (.int p2), .val (.int p3), .val (.int p4), .val (.int p5), .val (.ref b2), .unset, .unset, .unset, .unset, .unset] [(.int (3 : Int32)), (.ref b2)])) _
    refine XS.iloadN X11.here hx rfl (hb hby at_38) rfl ?_
    show Steps p.tables e below (T11.setTop (mkF m 39 #[.val (.int p0), .val (.int p1), .val (.int p2), .val (.int p3), .val (.int p4), .val (.int p5), .val (.ref b2), .unset, .unset, .unset, .unset, .unset] [(.int p3), (.int (3 : Int32)), (.ref b2)])) _
    refine XS.sipush X11.here hx rfl (hb hby at_39) ?_
    show Steps p.tables e below (T11.setTop (mkF m 42 #[.val (.int p0), .val (.int p1), .val (.int p2), .val (.int p3), .val (.int p4), .val (.int p5), .val (.ref b2), .unset, .unset, .unset, .unset, .unset] [(.int (255 : Int32)), (.int p3), (.int (3 : Int32)), (.ref b2)])) _
    refine XS.iand X11.here hx rfl (hb hby at_42) rfl ?_
    show Steps p.tables e below (T11.setTop (mkF m 43 #[.val (.int p0), .val (.int p1), .val (.int p2), .val (.int p3), .val (.int p4), .val (.int p5), .val (.ref b2), .unset, .unset, .unset, .unset, .unset] [(.int (p3 &&& (255 : Int32))), (.int (3 : Int32)), (.ref b2)])) _
    refine XS.i2c X11.here hx rfl (hb hby at_43) rfl ?_
    exact Steps.refl _)
  obtain ⟨cl14, Ar14, q14, S14, Nn14, Ha14, G14⟩ := id V11
  obtain ⟨T14, h14, X14, e14, W14, st14⟩ := stC X11 hx hZ e11 Ar14 (j := (3 : Int32)) (inb_of S14 ⟨by decide, by decide⟩) (g := (mkF m 44 #[.val (.int p0), .val (.int p1), .val (.int p2), .val (.int p3), .val (.int p4), .val (.int p5), .val (.ref b2), .unset, .unset, .unset, .unset, .unset] [(.int ((p3 &&& (255 : Int32)).toUInt32.toUInt16.toUInt32.toInt32)), (.int (3 : Int32)), (.ref b2)])) rfl rfl (hb hby at_44)
  have V14 := Arv.set Ar14 q14 S14 Nn14 Ha14 G14 (fits_nar_char _) W14 3 rfl (Nat.le_of_ble_eq_true rfl)
  have c15 : Steps p.tables e below S0 (T14.setTop (mkF m 45 #[.val (.int p0), .val (.int p1), .val (.int p2), .val (.int p3), .val (.int p4), .val (.int p5), .val (.ref b2), .unset, .unset, .unset, .unset, .unset] [])) := c13.trans (st14 _ (Steps.refl _))
  have N14 := Fr.snoc X14 N11 (Nat.le_trans Z0 (Nat.le_trans K0.1 (Nat.le_of_eq g2.symm)))
  have z14 : n0 ≤ h14.size := Nat.le_trans z11 (Keep.of_wr W14).1
  have K14 := K11.wr W14 (Or.inr (Nat.le_trans K0.1 (Nat.le_of_eq g2.symm)))
  obtain ⟨T16, h16, X16, e16, E16, A16, D16, -, st16⟩ := newO X14 hx hZ hown (hw _ (List.mem_of_getElem? (i := 1) rfl)) (hw _ (List.mem_of_getElem? (i := 2) rfl)) (hw _ (List.mem_of_getElem? (i := 3) rfl)) e14 (g := (mkF m 45 #[.val (.int p0), .val (.int p1), .val (.int p2), .val (.int p3), .val (.int p4), .val (.int p5), .val (.ref b2), .unset, .unset, .unset, .unset, .unset] [])) rfl (hb hby at_45) (by decide) (by decide)
  obtain ⟨b16, g16⟩ : ∃ z, z = h14.size := ⟨_, rfl⟩
  rw [← g16] at A16 D16 st16
  have c17 : Steps p.tables e below S0 (T16.setTop (mkF m 48 #[.val (.int p0), .val (.int p1), .val (.int p2), .val (.int p3), .val (.int p4), .val (.int p5), .val (.ref b2), .unset, .unset, .unset, .unset, .unset] [(.ref b16)])) := c15.trans (st16 _ (Steps.refl _))
  have z16 : n0 ≤ h16.size := Nat.le_trans z14 E16.1
  have K16 := K14.ext E16
  have lt_b16 : b16 < h16.size := A16.lt
  have F16_coder : Fld Z h16 b16 "java/lang/String" "coder" "B" (.int (0 : Int32)) := D16 (Or.inr (hw _ (List.mem_of_getElem? (i := 27) rfl))) (ty := .byte) (by decide)
  have F16_value : Fld Z h16 b16 "java/lang/String" "value" "[B" .null := D16 (Or.inr (hw _ (List.mem_of_getElem? (i := 29) rfl))) (ty := (.array .byte)) (by decide)
  have c18 : Steps p.tables e below S0 (T16.setTop (mkF m 51 #[.val (.int p0), .val (.int p1), .val (.int p2), .val (.int p3), .val (.int p4), .val (.int p5), .val (.ref b2), .unset, .unset, .unset, .unset, .unset] [(.ref b2), (.ref b16), (.ref b16)])) := c17.trans (by
    show Steps p.tables e below (T16.setTop (mkF m 48 #[.val (.int p0), .val (.int p1), .val (.int p2), .val (.int p3), .val (.int p4), .val (.int p5), .val (.ref b2), .unset, .unset, .unset, .unset, .unset] [(.ref b16)])) _
    refine XS.dup X16.here hx rfl (hb hby at_48) rfl rfl ?_
    show Steps p.tables e below (T16.setTop (mkF m 49 #[.val (.int p0), .val (.int p1), .val (.int p2), .val (.int p3), .val (.int p4), .val (.int p5), .val (.ref b2), .unset, .unset, .unset, .unset, .unset] [(.ref b16), (.ref b16)])) _
    refine XS.aload X16.here hx rfl (hb hby at_49) rfl rfl ?_
    exact Steps.refl _)
  have hp19 : ∀ c ∈ ([(nar .char ((p0 &&& (255 : Int32)).toUInt32.toUInt16.toUInt32.toInt32)), (nar .char ((p1 &&& (255 : Int32)).toUInt32.toUInt16.toUInt32.toInt32)), (nar .char ((p2 &&& (255 : Int32)).toUInt32.toUInt16.toUInt32.toInt32)), (nar .char ((p3 &&& (255 : Int32)).toUInt32.toUInt16.toUInt32.toInt32))] : List Int32), ¬ c < 0 ∧ ¬ (255 : Int32) < c := (own_alS (own_c8n (own_c8m p0)) (own_alS (own_c8n (own_c8m p1)) (own_alS (own_c8n (own_c8m p2)) (own_alS (own_c8n (own_c8m p3)) own_al0))))
  have hws19 : ∀ d ∈ StrChars.Road.words, d.before a0 Z = true := fun d hd => hw d (own_in_words d hd)
  obtain ⟨_, _, ⟨T20, L20, kk20, nn20⟩, -, X20, ⟨Lc20, hQ20, l20, y20, z20⟩, st20⟩ := X16.specialBack hx (y := (⟨"java/lang/String", "<init>", "([C)V"⟩ : MethodName)) rfl hown (mvT hZ (hw _ (List.mem_of_getElem? (i := 4) rfl))) (mvT hZ (hw _ (List.mem_of_getElem? (i := 5) rfl))) (mvT hZ (hw _ (List.mem_of_getElem? (i := 6) rfl))) (by decide) (StrChars.Road.backV (W := 1) hZ hws19 (kI := 4) (hw _ (List.mem_of_getElem? (i := 2) rfl)) (cs := ([(nar .char ((p0 &&& (255 : Int32)).toUInt32.toUInt16.toUInt32.toInt32)), (nar .char ((p1 &&& (255 : Int32)).toUInt32.toUInt16.toUInt32.toInt32)), (nar .char ((p2 &&& (255 : Int32)).toUInt32.toUInt16.toUInt32.toInt32)), (nar .char ((p3 &&& (255 : Int32)).toUInt32.toUInt16.toUInt32.toInt32))] : List Int32)) (bs := (([(nar .char ((p0 &&& (255 : Int32)).toUInt32.toUInt16.toUInt32.toInt32)), (nar .char ((p1 &&& (255 : Int32)).toUInt32.toUInt16.toUInt32.toInt32)), (nar .char ((p2 &&& (255 : Int32)).toUInt32.toUInt16.toUInt32.toInt32)), (nar .char ((p3 &&& (255 : Int32)).toUInt32.toUInt16.toUInt32.toInt32))] : List Int32)).map (fun c => c.toInt8.toInt32)) (n := 4) (Nat.le_trans Z0 (Nat.le_trans K14.1 (Nat.le_of_eq g16.symm))) z16 A16 F16_value F16_coder (V14.ext E16) (O2.ext ((((((X00.ext E2).wr W5 (Nat.le_trans Z0 (Nat.le_trans K0.1 (Nat.le_of_eq g2.symm)))).wr W8 (Nat.le_trans Z0 (Nat.le_trans K0.1 (Nat.le_of_eq g2.symm)))).wr W11 (Nat.le_trans Z0 (Nat.le_trans K0.1 (Nat.le_of_eq g2.symm)))).wr W14 (Nat.le_trans Z0 (Nat.le_trans K0.1 (Nat.le_of_eq g2.symm)))).ext E16).2) P5 rfl rfl (by decide) (by decide) hp19 rfl (by decide) (by decide)) (g := (mkF m 51 #[.val (.int p0), .val (.int p1), .val (.int p2), .val (.int p3), .val (.int p4), .val (.int p5), .val (.ref b2), .unset, .unset, .unset, .unset, .unset] [(.ref b2), (.ref b16), (.ref b16)])) rfl (by rw [hml]; rfl) (Steps.refl _) (a := b16) (argsL := [(.ref b2)]) (rest := [(.ref b16)]) (lenOf pd_oaCcV rfl) rfl (by show 2 * 0 + _ ≤ _; exact Nat.le_of_eq rfl) (hb hby at_51) (fun _ _ => ⟨rfl, e16, (by decide : 2 + 1 ≤ _), (by decide : 8 + 4 ≤ _)⟩)
  dsimp only [Pt.U, Pt.locs, Pt.cells, Pt.slots] at X20 l20 y20 z20 st20 hQ20
  subst l20 y20 z20
  obtain ⟨rfl, Nq20, Kq20, Ex20, Fc20, t20, kb20, ge20, gh20, ne20, Fv20, Va20⟩ := hQ20
  have c21 : Steps p.tables e below S0 (T20.setTop (mkF m 54 #[.val (.int p0), .val (.int p1), .val (.int p2), .val (.int p3), .val (.int p4), .val (.int p5), .val (.ref b2), .unset, .unset, .unset, .unset, .unset] [(.ref b16)])) := c18.trans (st20)
  have N20 := Fr.app N14 Nq20
  have z20 : n0 ≤ T20.heap.size := Nat.le_trans z16 Kq20.1
  have K20 := K16.trans Kq20 (allS (Or.inr (Nat.le_trans K14.1 (Nat.le_of_eq g16.symm))) all0)
  have lt_t20 : t20 < T20.heap.size := Va20.lt
  have hcd20 : StrChars.Road.CodA ([(nar .char ((p0 &&& (255 : Int32)).toUInt32.toUInt16.toUInt32.toInt32)), (nar .char ((p1 &&& (255 : Int32)).toUInt32.toUInt16.toUInt32.toInt32)), (nar .char ((p2 &&& (255 : Int32)).toUInt32.toUInt16.toUInt32.toInt32)), (nar .char ((p3 &&& (255 : Int32)).toUInt32.toUInt16.toUInt32.toInt32))] : List Int32) 0 (4 : Int32) (((([(nar .char ((p0 &&& (255 : Int32)).toUInt32.toUInt16.toUInt32.toInt32)), (nar .char ((p1 &&& (255 : Int32)).toUInt32.toUInt16.toUInt32.toInt32)), (nar .char ((p2 &&& (255 : Int32)).toUInt32.toUInt16.toUInt32.toInt32)), (nar .char ((p3 &&& (255 : Int32)).toUInt32.toUInt16.toUInt32.toInt32))] : List Int32)).map (fun c => c.toInt8.toInt32)).map Value.int) := StrChars.Road.codOf (n := 4) rfl (fun c hc => (hp19 c hc).2)
  have c22 : Steps p.tables e below S0 (T20.setTop (mkF m 65 #[.val (.int p0), .val (.int p1), .val (.int p2), .val (.int p3), .val (.int p4), .val (.int p5), .val (.ref b2), .val (.ref b16), .val (.int ((p4 &&& (2147483647 : Int32)) % (5 : Int32))), .unset, .unset, .unset] [])) := c21.trans (by
    show Steps p.tables e below (T20.setTop (mkF m 54 #[.val (.int p0), .val (.int p1), .val (.int p2), .val (.int p3), .val (.int p4), .val (.int p5), .val (.ref b2), .unset, .unset, .unset, .unset, .unset] [(.ref b16)])) _
    refine XS.astore X20.here hx rfl (hb hby at_54) rfl rfl (l' := #[.val (.int p0), .val (.int p1), .val (.int p2), .val (.int p3), .val (.int p4), .val (.int p5), .val (.ref b2), .val (.ref b16), .unset, .unset, .unset, .unset]) rfl ?_
    show Steps p.tables e below (T20.setTop (mkF m 56 #[.val (.int p0), .val (.int p1), .val (.int p2), .val (.int p3), .val (.int p4), .val (.int p5), .val (.ref b2), .val (.ref b16), .unset, .unset, .unset, .unset] [])) _
    refine XS.iload X20.here hx rfl (hb hby at_56) rfl ?_
    show Steps p.tables e below (T20.setTop (mkF m 58 #[.val (.int p0), .val (.int p1), .val (.int p2), .val (.int p3), .val (.int p4), .val (.int p5), .val (.ref b2), .val (.ref b16), .unset, .unset, .unset, .unset] [(.int p4)])) _
    refine X20.ldcInt hx hown (mvT hZ (hw _ (List.mem_of_getElem? (i := 30) rfl))) (g := (mkF m 58 #[.val (.int p0), .val (.int p1), .val (.int p2), .val (.int p3), .val (.int p4), .val (.int p5), .val (.ref b2), .val (.ref b16), .unset, .unset, .unset, .unset] [(.int p4)])) rfl (hb hby at_58) _ ?_
    show Steps p.tables e below (T20.setTop (mkF m 60 #[.val (.int p0), .val (.int p1), .val (.int p2), .val (.int p3), .val (.int p4), .val (.int p5), .val (.ref b2), .val (.ref b16), .unset, .unset, .unset, .unset] [(.int (2147483647 : Int32)), (.int p4)])) _
    refine XS.iand X20.here hx rfl (hb hby at_60) rfl ?_
    show Steps p.tables e below (T20.setTop (mkF m 61 #[.val (.int p0), .val (.int p1), .val (.int p2), .val (.int p3), .val (.int p4), .val (.int p5), .val (.ref b2), .val (.ref b16), .unset, .unset, .unset, .unset] [(.int (p4 &&& (2147483647 : Int32)))])) _
    refine XS.iconst X20.here hx rfl (hb hby at_61) ?_
    show Steps p.tables e below (T20.setTop (mkF m 62 #[.val (.int p0), .val (.int p1), .val (.int p2), .val (.int p3), .val (.int p4), .val (.int p5), .val (.ref b2), .val (.ref b16), .unset, .unset, .unset, .unset] [(.int (5 : Int32)), (.int (p4 &&& (2147483647 : Int32)))])) _
    refine iremM (g := (mkF m 62 #[.val (.int p0), .val (.int p1), .val (.int p2), .val (.int p3), .val (.int p4), .val (.int p5), .val (.ref b2), .val (.ref b16), .unset, .unset, .unset, .unset] [(.int (5 : Int32)), (.int (p4 &&& (2147483647 : Int32)))])) X20 hx rfl (hb hby at_62) rfl (by decide) ?_
    show Steps p.tables e below (T20.setTop (mkF m 63 #[.val (.int p0), .val (.int p1), .val (.int p2), .val (.int p3), .val (.int p4), .val (.int p5), .val (.ref b2), .val (.ref b16), .unset, .unset, .unset, .unset] [(.int ((p4 &&& (2147483647 : Int32)) % (5 : Int32)))])) _
    refine XS.istore X20.here hx rfl (hb hby at_63) rfl (l' := #[.val (.int p0), .val (.int p1), .val (.int p2), .val (.int p3), .val (.int p4), .val (.int p5), .val (.ref b2), .val (.ref b16), .val (.int ((p4 &&& (2147483647 : Int32)) % (5 : Int32))), .unset, .unset, .unset]) rfl ?_
    exact Steps.refl _)
  obtain ⟨a, ha, ea⟩ := own_rem31 p4 (m := 5) (by decide) (by decide)
  rw [(show (p4 &&& (2147483647 : Int32)) % (5 : Int32) = Int32.ofNat a from ea)] at c22
  have c23 : Steps p.tables e below S0 (T20.setTop (mkF m 74 #[.val (.int p0), .val (.int p1), .val (.int p2), .val (.int p3), .val (.int p4), .val (.int p5), .val (.ref b2), .val (.ref b16), .val (.int (Int32.ofNat a)), .val (.int ((p5 &&& (2147483647 : Int32)) % (5 : Int32))), .unset, .unset] [])) := c22.trans (by
    show Steps p.tables e below (T20.setTop (mkF m 65 #[.val (.int p0), .val (.int p1), .val (.int p2), .val (.int p3), .val (.int p4), .val (.int p5), .val (.ref b2), .val (.ref b16), .val (.int (Int32.ofNat a)), .unset, .unset, .unset] [])) _
    refine XS.iload X20.here hx rfl (hb hby at_65) rfl ?_
    show Steps p.tables e below (T20.setTop (mkF m 67 #[.val (.int p0), .val (.int p1), .val (.int p2), .val (.int p3), .val (.int p4), .val (.int p5), .val (.ref b2), .val (.ref b16), .val (.int (Int32.ofNat a)), .unset, .unset, .unset] [(.int p5)])) _
    refine X20.ldcInt hx hown (mvT hZ (hw _ (List.mem_of_getElem? (i := 30) rfl))) (g := (mkF m 67 #[.val (.int p0), .val (.int p1), .val (.int p2), .val (.int p3), .val (.int p4), .val (.int p5), .val (.ref b2), .val (.ref b16), .val (.int (Int32.ofNat a)), .unset, .unset, .unset] [(.int p5)])) rfl (hb hby at_67) _ ?_
    show Steps p.tables e below (T20.setTop (mkF m 69 #[.val (.int p0), .val (.int p1), .val (.int p2), .val (.int p3), .val (.int p4), .val (.int p5), .val (.ref b2), .val (.ref b16), .val (.int (Int32.ofNat a)), .unset, .unset, .unset] [(.int (2147483647 : Int32)), (.int p5)])) _
    refine XS.iand X20.here hx rfl (hb hby at_69) rfl ?_
    show Steps p.tables e below (T20.setTop (mkF m 70 #[.val (.int p0), .val (.int p1), .val (.int p2), .val (.int p3), .val (.int p4), .val (.int p5), .val (.ref b2), .val (.ref b16), .val (.int (Int32.ofNat a)), .unset, .unset, .unset] [(.int (p5 &&& (2147483647 : Int32)))])) _
    refine XS.iconst X20.here hx rfl (hb hby at_70) ?_
    show Steps p.tables e below (T20.setTop (mkF m 71 #[.val (.int p0), .val (.int p1), .val (.int p2), .val (.int p3), .val (.int p4), .val (.int p5), .val (.ref b2), .val (.ref b16), .val (.int (Int32.ofNat a)), .unset, .unset, .unset] [(.int (5 : Int32)), (.int (p5 &&& (2147483647 : Int32)))])) _
    refine iremM (g := (mkF m 71 #[.val (.int p0), .val (.int p1), .val (.int p2), .val (.int p3), .val (.int p4), .val (.int p5), .val (.ref b2), .val (.ref b16), .val (.int (Int32.ofNat a)), .unset, .unset, .unset] [(.int (5 : Int32)), (.int (p5 &&& (2147483647 : Int32)))])) X20 hx rfl (hb hby at_71) rfl (by decide) ?_
    show Steps p.tables e below (T20.setTop (mkF m 72 #[.val (.int p0), .val (.int p1), .val (.int p2), .val (.int p3), .val (.int p4), .val (.int p5), .val (.ref b2), .val (.ref b16), .val (.int (Int32.ofNat a)), .unset, .unset, .unset] [(.int ((p5 &&& (2147483647 : Int32)) % (5 : Int32)))])) _
    refine XS.istore X20.here hx rfl (hb hby at_72) rfl (l' := #[.val (.int p0), .val (.int p1), .val (.int p2), .val (.int p3), .val (.int p4), .val (.int p5), .val (.ref b2), .val (.ref b16), .val (.int (Int32.ofNat a)), .val (.int ((p5 &&& (2147483647 : Int32)) % (5 : Int32))), .unset, .unset]) rfl ?_
    exact Steps.refl _)
  obtain ⟨b, hb2, eb⟩ := own_rem31 p5 (m := 5) (by decide) (by decide)
  rw [(show (p5 &&& (2147483647 : Int32)) % (5 : Int32) = Int32.ofNat b from eb)] at c23
  have c24 : Steps p.tables e below S0 (T20.setTop (mkF m 78 #[.val (.int p0), .val (.int p1), .val (.int p2), .val (.int p3), .val (.int p4), .val (.int p5), .val (.ref b2), .val (.ref b16), .val (.int (Int32.ofNat a)), .val (.int (Int32.ofNat b)), .unset, .unset] [(.int (Int32.ofNat b)), (.int (Int32.ofNat a))])) := c23.trans (by
    show Steps p.tables e below (T20.setTop (mkF m 74 #[.val (.int p0), .val (.int p1), .val (.int p2), .val (.int p3), .val (.int p4), .val (.int p5), .val (.ref b2), .val (.ref b16), .val (.int (Int32.ofNat a)), .val (.int (Int32.ofNat b)), .unset, .unset] [])) _
    refine XS.iload X20.here hx rfl (hb hby at_74) rfl ?_
    show Steps p.tables e below (T20.setTop (mkF m 76 #[.val (.int p0), .val (.int p1), .val (.int p2), .val (.int p3), .val (.int p4), .val (.int p5), .val (.ref b2), .val (.ref b16), .val (.int (Int32.ofNat a)), .val (.int (Int32.ofNat b)), .unset, .unset] [(.int (Int32.ofNat a))])) _
    refine XS.iload X20.here hx rfl (hb hby at_76) rfl ?_
    exact Steps.refl _)
  by_cases hq25 : (Int32.ofNat a) < (Int32.ofNat b)
  · have c26 : Steps p.tables e below S0 (T20.setTop (mkF m 89 #[.val (.int p0), .val (.int p1), .val (.int p2), .val (.int p3), .val (.int p4), .val (.int p5), .val (.ref b2), .val (.ref b16), .val (.int (Int32.ofNat a)), .val (.int (Int32.ofNat b)), .unset, .unset] [(.int (0 : Int32)), (.ref b2), (.int (Int32.ofNat b)), (.int (Int32.ofNat a)), (.int (0 : Int32))])) := c24.trans (by
      show Steps p.tables e below (T20.setTop (mkF m 78 #[.val (.int p0), .val (.int p1), .val (.int p2), .val (.int p3), .val (.int p4), .val (.int p5), .val (.ref b2), .val (.ref b16), .val (.int (Int32.ofNat a)), .val (.int (Int32.ofNat b)), .unset, .unset] [(.int (Int32.ofNat b)), (.int (Int32.ofNat a))])) _
      refine XS.icmpNo X20.here hx rfl (hb hby at_78) rfl (tlt hq25).2.1 ?_
      show Steps p.tables e below (T20.setTop (mkF m 81 #[.val (.int p0), .val (.int p1), .val (.int p2), .val (.int p3), .val (.int p4), .val (.int p5), .val (.ref b2), .val (.ref b16), .val (.int (Int32.ofNat a)), .val (.int (Int32.ofNat b)), .unset, .unset] [])) _
      refine XS.iconst X20.here hx rfl (hb hby at_81) ?_
      show Steps p.tables e below (T20.setTop (mkF m 82 #[.val (.int p0), .val (.int p1), .val (.int p2), .val (.int p3), .val (.int p4), .val (.int p5), .val (.ref b2), .val (.ref b16), .val (.int (Int32.ofNat a)), .val (.int (Int32.ofNat b)), .unset, .unset] [(.int (0 : Int32))])) _
      refine XS.iload X20.here hx rfl (hb hby at_82) rfl ?_
      show Steps p.tables e below (T20.setTop (mkF m 84 #[.val (.int p0), .val (.int p1), .val (.int p2), .val (.int p3), .val (.int p4), .val (.int p5), .val (.ref b2), .val (.ref b16), .val (.int (Int32.ofNat a)), .val (.int (Int32.ofNat b)), .unset, .unset] [(.int (Int32.ofNat a)), (.int (0 : Int32))])) _
      refine XS.iload X20.here hx rfl (hb hby at_84) rfl ?_
      show Steps p.tables e below (T20.setTop (mkF m 86 #[.val (.int p0), .val (.int p1), .val (.int p2), .val (.int p3), .val (.int p4), .val (.int p5), .val (.ref b2), .val (.ref b16), .val (.int (Int32.ofNat a)), .val (.int (Int32.ofNat b)), .unset, .unset] [(.int (Int32.ofNat b)), (.int (Int32.ofNat a)), (.int (0 : Int32))])) _
      refine XS.aload X20.here hx rfl (hb hby at_86) rfl rfl ?_
      show Steps p.tables e below (T20.setTop (mkF m 88 #[.val (.int p0), .val (.int p1), .val (.int p2), .val (.int p3), .val (.int p4), .val (.int p5), .val (.ref b2), .val (.ref b16), .val (.int (Int32.ofNat a)), .val (.int (Int32.ofNat b)), .unset, .unset] [(.ref b2), (.int (Int32.ofNat b)), (.int (Int32.ofNat a)), (.int (0 : Int32))])) _
      refine XS.iconst X20.here hx rfl (hb hby at_88) ?_
      exact Steps.refl _)
    obtain ⟨cl27, Ar27, -, S27, -, Ha27, -⟩ := id ((V14.ext E16).keep Kq20 (ninS (Nat.ne_of_lt (Nat.lt_of_lt_of_le (Nat.lt_of_lt_of_le lt_b2 (Nat.le_trans (Nat.le_trans (Nat.le_trans (Keep.of_wr W5).1 (Keep.of_wr W8).1) (Keep.of_wr W11).1) (Keep.of_wr W14).1)) (Nat.le_of_eq g16.symm))) nin0))
    have c28 : Steps p.tables e below S0 (T20.setTop (mkF m 90 #[.val (.int p0), .val (.int p1), .val (.int p2), .val (.int p3), .val (.int p4), .val (.int p5), .val (.ref b2), .val (.ref b16), .val (.int (Int32.ofNat a)), .val (.int (Int32.ofNat b)), .unset, .unset] [(.int (nar .char ((p0 &&& (255 : Int32)).toUInt32.toUInt16.toUInt32.toInt32))), (.int (Int32.ofNat b)), (.int (Int32.ofNat a)), (.int (0 : Int32))])) := c26.trans (by
      show Steps p.tables e below (T20.setTop (mkF m 89 #[.val (.int p0), .val (.int p1), .val (.int p2), .val (.int p3), .val (.int p4), .val (.int p5), .val (.ref b2), .val (.ref b16), .val (.int (Int32.ofNat a)), .val (.int (Int32.ofNat b)), .unset, .unset] [(.int (0 : Int32)), (.ref b2), (.int (Int32.ofNat b)), (.int (Int32.ofNat a)), (.int (0 : Int32))])) _
      refine X20.caload hx (j := (0 : Int32)) (v := (.int (nar .char ((p0 &&& (255 : Int32)).toUInt32.toUInt16.toUInt32.toInt32)))) Ar27.1 (State.isArrayOf_alike hZ.alike Ar27.2.1) Ar27.2.2 (inb_of S27 ⟨by decide, by decide⟩) (Ha27.at (inb_of S27 ⟨by decide, by decide⟩) rfl) (g := (mkF m 89 #[.val (.int p0), .val (.int p1), .val (.int p2), .val (.int p3), .val (.int p4), .val (.int p5), .val (.ref b2), .val (.ref b16), .val (.int (Int32.ofNat a)), .val (.int (Int32.ofNat b)), .unset, .unset] [(.int (0 : Int32)), (.ref b2), (.int (Int32.ofNat b)), (.int (Int32.ofNat a)), (.int (0 : Int32))])) rfl rfl (hb hby at_89) _ ?_
      exact Steps.refl _)
    obtain ⟨_, _, ⟨T29, L29, kk29, nn29⟩, -, X29, ⟨Lc29, hQ29, l29, y29, z29⟩, st29⟩ := Jvm.LawKit.callS X20 hx (y := (⟨"com/example/libroute/libroute/pattern/RoutePatternIsNamePinLaw", "inside", "(IIIC)Z"⟩ : MethodName)) hown (mvT hZ (hw _ (List.mem_of_getElem? (i := 31) rfl))) (mvT hZ (hw _ (List.mem_of_getElem? (i := 32) rfl))) (mvT hZ (hw _ (List.mem_of_getElem? (i := 33) rfl))) (mvT hZ (hw _ (List.mem_of_getElem? (i := 34) rfl))) (by decide) (backOf (W := 0) (rmIn l Z a0 hw [] 0 a b (nar .char ((p0 &&& (255 : Int32)).toUInt32.toUInt16.toUInt32.toInt32)) T20.heap n0 z20 (by omega) (by omega) (by omega)) hZ (hw _ (List.mem_of_getElem? (i := 34) rfl)) (hw _ (List.mem_of_getElem? (i := 33) rfl)) (by decide) (by decide)) (g := (mkF m 90 #[.val (.int p0), .val (.int p1), .val (.int p2), .val (.int p3), .val (.int p4), .val (.int p5), .val (.ref b2), .val (.ref b16), .val (.int (Int32.ofNat a)), .val (.int (Int32.ofNat b)), .unset, .unset] [(.int (nar .char ((p0 &&& (255 : Int32)).toUInt32.toUInt16.toUInt32.toInt32))), (.int (Int32.ofNat b)), (.int (Int32.ofNat a)), (.int (0 : Int32))])) rfl (by rw [hml]; rfl) (argsL := [(.int (0 : Int32)), (.int (Int32.ofNat a)), (.int (Int32.ofNat b)), (.int (nar .char ((p0 &&& (255 : Int32)).toUInt32.toUInt16.toUInt32.toInt32)))]) (rest := []) (lenOf pd_oIIICcZ rfl) rfl (by show 2 * 0 + _ ≤ _; exact Nat.le_of_eq rfl) (hb hby at_90) (fun _ _ => ⟨rfl, rfl, (by decide : 3 + 0 ≤ _), (by decide : 12 + 0 ≤ _)⟩)
    dsimp only [Pt.U, Pt.locs, Pt.cells, Pt.slots] at X29 l29 y29 z29 st29 hQ29
    subst l29 y29 z29
    obtain ⟨r29, rfl, hr29, Nq29, eq29⟩ := hQ29
    have c30 : Steps p.tables e below S0 (T29.setTop (mkF m 93 #[.val (.int p0), .val (.int p1), .val (.int p2), .val (.int p3), .val (.int p4), .val (.int p5), .val (.ref b2), .val (.ref b16), .val (.int (Int32.ofNat a)), .val (.int (Int32.ofNat b)), .unset, .unset] [(.int r29)])) := c28.trans (st29 _ (Steps.refl _))
    have N29 := Fr.app N20 Nq29
    by_cases hq31 : r29 = (0 : Int32)
    · have c32 : Steps p.tables e below S0 (T29.setTop (mkF m 154 #[.val (.int p0), .val (.int p1), .val (.int p2), .val (.int p3), .val (.int p4), .val (.int p5), .val (.ref b2), .val (.ref b16), .val (.int (Int32.ofNat a)), .val (.int (Int32.ofNat b)), .val (.int (0 : Int32)), .unset] [(.int (Int32.ofNat b)), (.int (Int32.ofNat a)), (.ref b16)])) := c30.trans (by
        show Steps p.tables e below (T29.setTop (mkF m 93 #[.val (.int p0), .val (.int p1), .val (.int p2), .val (.int p3), .val (.int p4), .val (.int p5), .val (.ref b2), .val (.ref b16), .val (.int (Int32.ofNat a)), .val (.int (Int32.ofNat b)), .unset, .unset] [(.int r29)])) _
        refine XS.ifYes X29.here hx rfl (pc0 := 93) (pc' := 145) rfl (hb hby at_93) rfl ((if0 _ _).trans (teq hq31).1) (by decide) (by decide) ?_
        show Steps p.tables e below (T29.setTop (mkF m 145 #[.val (.int p0), .val (.int p1), .val (.int p2), .val (.int p3), .val (.int p4), .val (.int p5), .val (.ref b2), .val (.ref b16), .val (.int (Int32.ofNat a)), .val (.int (Int32.ofNat b)), .unset, .unset] [])) _
        refine XS.iconst X29.here hx rfl (hb hby at_145) ?_
        show Steps p.tables e below (T29.setTop (mkF m 146 #[.val (.int p0), .val (.int p1), .val (.int p2), .val (.int p3), .val (.int p4), .val (.int p5), .val (.ref b2), .val (.ref b16), .val (.int (Int32.ofNat a)), .val (.int (Int32.ofNat b)), .unset, .unset] [(.int (0 : Int32))])) _
        refine XS.istore X29.here hx rfl (hb hby at_146) rfl (l' := #[.val (.int p0), .val (.int p1), .val (.int p2), .val (.int p3), .val (.int p4), .val (.int p5), .val (.ref b2), .val (.ref b16), .val (.int (Int32.ofNat a)), .val (.int (Int32.ofNat b)), .val (.int (0 : Int32)), .unset]) rfl ?_
        show Steps p.tables e below (T29.setTop (mkF m 148 #[.val (.int p0), .val (.int p1), .val (.int p2), .val (.int p3), .val (.int p4), .val (.int p5), .val (.ref b2), .val (.ref b16), .val (.int (Int32.ofNat a)), .val (.int (Int32.ofNat b)), .val (.int (0 : Int32)), .unset] [])) _
        refine XS.aload X29.here hx rfl (hb hby at_148) rfl rfl ?_
        show Steps p.tables e below (T29.setTop (mkF m 150 #[.val (.int p0), .val (.int p1), .val (.int p2), .val (.int p3), .val (.int p4), .val (.int p5), .val (.ref b2), .val (.ref b16), .val (.int (Int32.ofNat a)), .val (.int (Int32.ofNat b)), .val (.int (0 : Int32)), .unset] [(.ref b16)])) _
        refine XS.iload X29.here hx rfl (hb hby at_150) rfl ?_
        show Steps p.tables e below (T29.setTop (mkF m 152 #[.val (.int p0), .val (.int p1), .val (.int p2), .val (.int p3), .val (.int p4), .val (.int p5), .val (.ref b2), .val (.ref b16), .val (.int (Int32.ofNat a)), .val (.int (Int32.ofNat b)), .val (.int (0 : Int32)), .unset] [(.int (Int32.ofNat a)), (.ref b16)])) _
        refine XS.iload X29.here hx rfl (hb hby at_152) rfl ?_
        exact Steps.refl _)
      obtain ⟨_, _, ⟨T33, L33, kk33, nn33⟩, -, X33, ⟨Lc33, hQ33, l33, y33, z33⟩, st33⟩ := Jvm.LawKit.callS X29 hx (y := (⟨"com/example/libroute/libroute/pattern/RoutePattern", "isName", "(Ljava/lang/String;II)Z"⟩ : MethodName)) hown (mvT hZ (hw _ (List.mem_of_getElem? (i := 38) rfl))) (mvT hZ (hw _ (List.mem_of_getElem? (i := 39) rfl))) (mvT hZ (hw _ (List.mem_of_getElem? (i := 40) rfl))) (mvT hZ (hw _ (List.mem_of_getElem? (i := 41) rfl))) (by decide) (backOf (W := 0) (rmNm l Z a0 hw [] b16 t20 kb20 (4 : Int32) _ ([(nar .char ((p0 &&& (255 : Int32)).toUInt32.toUInt16.toUInt32.toInt32)), (nar .char ((p1 &&& (255 : Int32)).toUInt32.toUInt16.toUInt32.toInt32)), (nar .char ((p2 &&& (255 : Int32)).toUInt32.toUInt16.toUInt32.toInt32)), (nar .char ((p3 &&& (255 : Int32)).toUInt32.toUInt16.toUInt32.toInt32))] : List Int32) a b G1 G3 T20.heap n0 z20 Ex20 Fv20 Fc20 Va20 hcd20 (own_up _ hp19) (Nat.le_of_ble_eq_true rfl) (by omega) (by show b ≤ 4; omega) O2 P5 (((((((X00.ext E2).wr W5 (Nat.le_trans Z0 (Nat.le_trans K0.1 (Nat.le_of_eq g2.symm)))).wr W8 (Nat.le_trans Z0 (Nat.le_trans K0.1 (Nat.le_of_eq g2.symm)))).wr W11 (Nat.le_trans Z0 (Nat.le_trans K0.1 (Nat.le_of_eq g2.symm)))).wr W14 (Nat.le_trans Z0 (Nat.le_trans K0.1 (Nat.le_of_eq g2.symm)))).ext E16).keep Kq20 (allS (Nat.le_trans Z0 (Nat.le_trans K14.1 (Nat.le_of_eq g16.symm))) all0)) O4 rG3) hZ (hw _ (List.mem_of_getElem? (i := 41) rfl)) (hw _ (List.mem_of_getElem? (i := 40) rfl)) (by decide) (by decide)) (g := (mkF m 154 #[.val (.int p0), .val (.int p1), .val (.int p2), .val (.int p3), .val (.int p4), .val (.int p5), .val (.ref b2), .val (.ref b16), .val (.int (Int32.ofNat a)), .val (.int (Int32.ofNat b)), .val (.int (0 : Int32)), .unset] [(.int (Int32.ofNat b)), (.int (Int32.ofNat a)), (.ref b16)])) rfl (by rw [hml]; rfl) (argsL := [(.ref b16), (.int (Int32.ofNat a)), (.int (Int32.ofNat b))]) (rest := []) (lenOf pd_oLjavaslangsStringeIIcZ rfl) rfl (by show 2 * 0 + _ ≤ _; exact Nat.le_of_eq rfl) (hb hby at_154) (fun _ _ => ⟨rfl, eq29, (by decide : 3 + 0 ≤ _), (by decide : 12 + 0 ≤ _)⟩)
      dsimp only [Pt.U, Pt.locs, Pt.cells, Pt.slots] at X33 l33 y33 z33 st33 hQ33
      subst l33 y33 z33
      obtain ⟨q33, rfl, hq33, Nq33, eq33⟩ := hQ33
      have c34 : Steps p.tables e below S0 (T33.setTop (mkF m 157 #[.val (.int p0), .val (.int p1), .val (.int p2), .val (.int p3), .val (.int p4), .val (.int p5), .val (.ref b2), .val (.ref b16), .val (.int (Int32.ofNat a)), .val (.int (Int32.ofNat b)), .val (.int (0 : Int32)), .unset] [(.int q33)])) := c32.trans (st33 _ (Steps.refl _))
      have N33 := Fr.app N29 Nq33
      have c35 : Steps p.tables e below S0 (T33.setTop (mkF m 171 #[.val (.int p0), .val (.int p1), .val (.int p2), .val (.int p3), .val (.int p4), .val (.int p5), .val (.ref b2), .val (.ref b16), .val (.int (Int32.ofNat a)), .val (.int (Int32.ofNat b)), .val (.int (0 : Int32)), .val (.int q33)] [(.int (1 : Int32))])) := c34.trans (by
        show Steps p.tables e below (T33.setTop (mkF m 157 #[.val (.int p0), .val (.int p1), .val (.int p2), .val (.int p3), .val (.int p4), .val (.int p5), .val (.ref b2), .val (.ref b16), .val (.int (Int32.ofNat a)), .val (.int (Int32.ofNat b)), .val (.int (0 : Int32)), .unset] [(.int q33)])) _
        refine XS.istore X33.here hx rfl (hb hby at_157) rfl (l' := #[.val (.int p0), .val (.int p1), .val (.int p2), .val (.int p3), .val (.int p4), .val (.int p5), .val (.ref b2), .val (.ref b16), .val (.int (Int32.ofNat a)), .val (.int (Int32.ofNat b)), .val (.int (0 : Int32)), .val (.int q33)]) rfl ?_
        show Steps p.tables e below (T33.setTop (mkF m 159 #[.val (.int p0), .val (.int p1), .val (.int p2), .val (.int p3), .val (.int p4), .val (.int p5), .val (.ref b2), .val (.ref b16), .val (.int (Int32.ofNat a)), .val (.int (Int32.ofNat b)), .val (.int (0 : Int32)), .val (.int q33)] [])) _
        refine XS.iload X33.here hx rfl (hb hby at_159) rfl ?_
        show Steps p.tables e below (T33.setTop (mkF m 161 #[.val (.int p0), .val (.int p1), .val (.int p2), .val (.int p3), .val (.int p4), .val (.int p5), .val (.ref b2), .val (.ref b16), .val (.int (Int32.ofNat a)), .val (.int (Int32.ofNat b)), .val (.int (0 : Int32)), .val (.int q33)] [(.int q33)])) _
        refine XS.iload X33.here hx rfl (hb hby at_161) rfl ?_
        show Steps p.tables e below (T33.setTop (mkF m 163 #[.val (.int p0), .val (.int p1), .val (.int p2), .val (.int p3), .val (.int p4), .val (.int p5), .val (.ref b2), .val (.ref b16), .val (.int (Int32.ofNat a)), .val (.int (Int32.ofNat b)), .val (.int (0 : Int32)), .val (.int q33)] [(.int (0 : Int32)), (.int q33)])) _
        refine XS.icmpNo X33.here hx rfl (hb hby at_163) rfl (teq (own_is0 hq33 (own_notk rfl (own_n hr29 hq31)))).2 ?_
        show Steps p.tables e below (T33.setTop (mkF m 166 #[.val (.int p0), .val (.int p1), .val (.int p2), .val (.int p3), .val (.int p4), .val (.int p5), .val (.ref b2), .val (.ref b16), .val (.int (Int32.ofNat a)), .val (.int (Int32.ofNat b)), .val (.int (0 : Int32)), .val (.int q33)] [])) _
        refine XS.iconst X33.here hx rfl (hb hby at_166) ?_
        show Steps p.tables e below (T33.setTop (mkF m 167 #[.val (.int p0), .val (.int p1), .val (.int p2), .val (.int p3), .val (.int p4), .val (.int p5), .val (.ref b2), .val (.ref b16), .val (.int (Int32.ofNat a)), .val (.int (Int32.ofNat b)), .val (.int (0 : Int32)), .val (.int q33)] [(.int (1 : Int32))])) _
        refine XS.goto X33.here hx rfl (pc0 := 167) (pc' := 171) rfl (hb hby at_167) (by decide) (by decide) ?_
        exact Steps.refl _)
      obtain ⟨fs, hr, hrun, hended, hW, hsame⟩ := X33.leave (v := some (.int (1 : Int32))) (fun h => by rw [Bd.returns] at h; cases h)
      refine ⟨_, _, c35.trans (retOut X33 hx Bd.returns rfl (Or.inl ⟨rfl, by simp, _, rfl⟩) (hb hby at_171) hr), hrun, hended, _, _, rfl, ?_, ⟨_, rfl⟩, hW, hsame.mono (by decide) (by decide)⟩
      show Q0 Z  h0 n0 _ T33.heap _
      rw [eq33]
      exact ⟨rfl, N33⟩
    · have c36 : Steps p.tables e below S0 (T29.setTop (mkF m 104 #[.val (.int p0), .val (.int p1), .val (.int p2), .val (.int p3), .val (.int p4), .val (.int p5), .val (.ref b2), .val (.ref b16), .val (.int (Int32.ofNat a)), .val (.int (Int32.ofNat b)), .unset, .unset] [(.int (1 : Int32)), (.ref b2), (.int (Int32.ofNat b)), (.int (Int32.ofNat a)), (.int (1 : Int32))])) := c30.trans (by
        show Steps p.tables e below (T29.setTop (mkF m 93 #[.val (.int p0), .val (.int p1), .val (.int p2), .val (.int p3), .val (.int p4), .val (.int p5), .val (.ref b2), .val (.ref b16), .val (.int (Int32.ofNat a)), .val (.int (Int32.ofNat b)), .unset, .unset] [(.int r29)])) _
        refine XS.ifNo X29.here hx rfl (hb hby at_93) rfl ((if0 _ _).trans (feq hq31).1) ?_
        show Steps p.tables e below (T29.setTop (mkF m 96 #[.val (.int p0), .val (.int p1), .val (.int p2), .val (.int p3), .val (.int p4), .val (.int p5), .val (.ref b2), .val (.ref b16), .val (.int (Int32.ofNat a)), .val (.int (Int32.ofNat b)), .unset, .unset] [])) _
        refine XS.iconst X29.here hx rfl (hb hby at_96) ?_
        show Steps p.tables e below (T29.setTop (mkF m 97 #[.val (.int p0), .val (.int p1), .val (.int p2), .val (.int p3), .val (.int p4), .val (.int p5), .val (.ref b2), .val (.ref b16), .val (.int (Int32.ofNat a)), .val (.int (Int32.ofNat b)), .unset, .unset] [(.int (1 : Int32))])) _
        refine XS.iload X29.here hx rfl (hb hby at_97) rfl ?_
        show Steps p.tables e below (T29.setTop (mkF m 99 #[.val (.int p0), .val (.int p1), .val (.int p2), .val (.int p3), .val (.int p4), .val (.int p5), .val (.ref b2), .val (.ref b16), .val (.int (Int32.ofNat a)), .val (.int (Int32.ofNat b)), .unset, .unset] [(.int (Int32.ofNat a)), (.int (1 : Int32))])) _
        refine XS.iload X29.here hx rfl (hb hby at_99) rfl ?_
        show Steps p.tables e below (T29.setTop (mkF m 101 #[.val (.int p0), .val (.int p1), .val (.int p2), .val (.int p3), .val (.int p4), .val (.int p5), .val (.ref b2), .val (.ref b16), .val (.int (Int32.ofNat a)), .val (.int (Int32.ofNat b)), .unset, .unset] [(.int (Int32.ofNat b)), (.int (Int32.ofNat a)), (.int (1 : Int32))])) _
        refine XS.aload X29.here hx rfl (hb hby at_101) rfl rfl ?_
        show Steps p.tables e below (T29.setTop (mkF m 103 #[.val (.int p0), .val (.int p1), .val (.int p2), .val (.int p3), .val (.int p4), .val (.int p5), .val (.ref b2), .val (.ref b16), .val (.int (Int32.ofNat a)), .val (.int (Int32.ofNat b)), .unset, .unset] [(.ref b2), (.int (Int32.ofNat b)), (.int (Int32.ofNat a)), (.int (1 : Int32))])) _
        refine XS.iconst X29.here hx rfl (hb hby at_103) ?_
        exact Steps.refl _)
      obtain ⟨cl37, Ar37, -, S37, -, Ha37, -⟩ := id ((V14.ext E16).keep Kq20 (ninS (Nat.ne_of_lt (Nat.lt_of_lt_of_le (Nat.lt_of_lt_of_le lt_b2 (Nat.le_trans (Nat.le_trans (Nat.le_trans (Keep.of_wr W5).1 (Keep.of_wr W8).1) (Keep.of_wr W11).1) (Keep.of_wr W14).1)) (Nat.le_of_eq g16.symm))) nin0))
      have c38 : Steps p.tables e below S0 (T29.setTop (mkF m 105 #[.val (.int p0), .val (.int p1), .val (.int p2), .val (.int p3), .val (.int p4), .val (.int p5), .val (.ref b2), .val (.ref b16), .val (.int (Int32.ofNat a)), .val (.int (Int32.ofNat b)), .unset, .unset] [(.int (nar .char ((p1 &&& (255 : Int32)).toUInt32.toUInt16.toUInt32.toInt32))), (.int (Int32.ofNat b)), (.int (Int32.ofNat a)), (.int (1 : Int32))])) := c36.trans (by
        show Steps p.tables e below (T29.setTop (mkF m 104 #[.val (.int p0), .val (.int p1), .val (.int p2), .val (.int p3), .val (.int p4), .val (.int p5), .val (.ref b2), .val (.ref b16), .val (.int (Int32.ofNat a)), .val (.int (Int32.ofNat b)), .unset, .unset] [(.int (1 : Int32)), (.ref b2), (.int (Int32.ofNat b)), (.int (Int32.ofNat a)), (.int (1 : Int32))])) _
        refine X29.caload hx (j := (1 : Int32)) (v := (.int (nar .char ((p1 &&& (255 : Int32)).toUInt32.toUInt16.toUInt32.toInt32)))) (by rw [eq29]; exact Ar37.1) (State.isArrayOf_alike hZ.alike Ar37.2.1) Ar37.2.2 (inb_of S37 ⟨by decide, by decide⟩) (Ha37.at (inb_of S37 ⟨by decide, by decide⟩) rfl) (g := (mkF m 104 #[.val (.int p0), .val (.int p1), .val (.int p2), .val (.int p3), .val (.int p4), .val (.int p5), .val (.ref b2), .val (.ref b16), .val (.int (Int32.ofNat a)), .val (.int (Int32.ofNat b)), .unset, .unset] [(.int (1 : Int32)), (.ref b2), (.int (Int32.ofNat b)), (.int (Int32.ofNat a)), (.int (1 : Int32))])) rfl rfl (hb hby at_104) _ ?_
        exact Steps.refl _)
      obtain ⟨_, _, ⟨T39, L39, kk39, nn39⟩, -, X39, ⟨Lc39, hQ39, l39, y39, z39⟩, st39⟩ := Jvm.LawKit.callS X29 hx (y := (⟨"com/example/libroute/libroute/pattern/RoutePatternIsNamePinLaw", "inside", "(IIIC)Z"⟩ : MethodName)) hown (mvT hZ (hw _ (List.mem_of_getElem? (i := 31) rfl))) (mvT hZ (hw _ (List.mem_of_getElem? (i := 32) rfl))) (mvT hZ (hw _ (List.mem_of_getElem? (i := 33) rfl))) (mvT hZ (hw _ (List.mem_of_getElem? (i := 34) rfl))) (by decide) (backOf (W := 0) (rmIn l Z a0 hw [] 1 a b (nar .char ((p1 &&& (255 : Int32)).toUInt32.toUInt16.toUInt32.toInt32)) T20.heap n0 z20 (by omega) (by omega) (by omega)) hZ (hw _ (List.mem_of_getElem? (i := 34) rfl)) (hw _ (List.mem_of_getElem? (i := 33) rfl)) (by decide) (by decide)) (g := (mkF m 105 #[.val (.int p0), .val (.int p1), .val (.int p2), .val (.int p3), .val (.int p4), .val (.int p5), .val (.ref b2), .val (.ref b16), .val (.int (Int32.ofNat a)), .val (.int (Int32.ofNat b)), .unset, .unset] [(.int (nar .char ((p1 &&& (255 : Int32)).toUInt32.toUInt16.toUInt32.toInt32))), (.int (Int32.ofNat b)), (.int (Int32.ofNat a)), (.int (1 : Int32))])) rfl (by rw [hml]; rfl) (argsL := [(.int (1 : Int32)), (.int (Int32.ofNat a)), (.int (Int32.ofNat b)), (.int (nar .char ((p1 &&& (255 : Int32)).toUInt32.toUInt16.toUInt32.toInt32)))]) (rest := []) (lenOf pd_oIIICcZ rfl) rfl (by show 2 * 0 + _ ≤ _; exact Nat.le_of_eq rfl) (hb hby at_105) (fun _ _ => ⟨rfl, eq29, (by decide : 3 + 0 ≤ _), (by decide : 12 + 0 ≤ _)⟩)
      dsimp only [Pt.U, Pt.locs, Pt.cells, Pt.slots] at X39 l39 y39 z39 st39 hQ39
      subst l39 y39 z39
      obtain ⟨r39, rfl, hr39, Nq39, eq39⟩ := hQ39
      have c40 : Steps p.tables e below S0 (T39.setTop (mkF m 108 #[.val (.int p0), .val (.int p1), .val (.int p2), .val (.int p3), .val (.int p4), .val (.int p5), .val (.ref b2), .val (.ref b16), .val (.int (Int32.ofNat a)), .val (.int (Int32.ofNat b)), .unset, .unset] [(.int r39)])) := c38.trans (st39 _ (Steps.refl _))
      have N39 := Fr.app N29 Nq39
      by_cases hq41 : r39 = (0 : Int32)
      · have c42 : Steps p.tables e below S0 (T39.setTop (mkF m 154 #[.val (.int p0), .val (.int p1), .val (.int p2), .val (.int p3), .val (.int p4), .val (.int p5), .val (.ref b2), .val (.ref b16), .val (.int (Int32.ofNat a)), .val (.int (Int32.ofNat b)), .val (.int (0 : Int32)), .unset] [(.int (Int32.ofNat b)), (.int (Int32.ofNat a)), (.ref b16)])) := c40.trans (by
          show Steps p.tables e below (T39.setTop (mkF m 108 #[.val (.int p0), .val (.int p1), .val (.int p2), .val (.int p3), .val (.int p4), .val (.int p5), .val (.ref b2), .val (.ref b16), .val (.int (Int32.ofNat a)), .val (.int (Int32.ofNat b)), .unset, .unset] [(.int r39)])) _
          refine XS.ifYes X39.here hx rfl (pc0 := 108) (pc' := 145) rfl (hb hby at_108) rfl ((if0 _ _).trans (teq hq41).1) (by decide) (by decide) ?_
          show Steps p.tables e below (T39.setTop (mkF m 145 #[.val (.int p0), .val (.int p1), .val (.int p2), .val (.int p3), .val (.int p4), .val (.int p5), .val (.ref b2), .val (.ref b16), .val (.int (Int32.ofNat a)), .val (.int (Int32.ofNat b)), .unset, .unset] [])) _
          refine XS.iconst X39.here hx rfl (hb hby at_145) ?_
          show Steps p.tables e below (T39.setTop (mkF m 146 #[.val (.int p0), .val (.int p1), .val (.int p2), .val (.int p3), .val (.int p4), .val (.int p5), .val (.ref b2), .val (.ref b16), .val (.int (Int32.ofNat a)), .val (.int (Int32.ofNat b)), .unset, .unset] [(.int (0 : Int32))])) _
          refine XS.istore X39.here hx rfl (hb hby at_146) rfl (l' := #[.val (.int p0), .val (.int p1), .val (.int p2), .val (.int p3), .val (.int p4), .val (.int p5), .val (.ref b2), .val (.ref b16), .val (.int (Int32.ofNat a)), .val (.int (Int32.ofNat b)), .val (.int (0 : Int32)), .unset]) rfl ?_
          show Steps p.tables e below (T39.setTop (mkF m 148 #[.val (.int p0), .val (.int p1), .val (.int p2), .val (.int p3), .val (.int p4), .val (.int p5), .val (.ref b2), .val (.ref b16), .val (.int (Int32.ofNat a)), .val (.int (Int32.ofNat b)), .val (.int (0 : Int32)), .unset] [])) _
          refine XS.aload X39.here hx rfl (hb hby at_148) rfl rfl ?_
          show Steps p.tables e below (T39.setTop (mkF m 150 #[.val (.int p0), .val (.int p1), .val (.int p2), .val (.int p3), .val (.int p4), .val (.int p5), .val (.ref b2), .val (.ref b16), .val (.int (Int32.ofNat a)), .val (.int (Int32.ofNat b)), .val (.int (0 : Int32)), .unset] [(.ref b16)])) _
          refine XS.iload X39.here hx rfl (hb hby at_150) rfl ?_
          show Steps p.tables e below (T39.setTop (mkF m 152 #[.val (.int p0), .val (.int p1), .val (.int p2), .val (.int p3), .val (.int p4), .val (.int p5), .val (.ref b2), .val (.ref b16), .val (.int (Int32.ofNat a)), .val (.int (Int32.ofNat b)), .val (.int (0 : Int32)), .unset] [(.int (Int32.ofNat a)), (.ref b16)])) _
          refine XS.iload X39.here hx rfl (hb hby at_152) rfl ?_
          exact Steps.refl _)
        obtain ⟨_, _, ⟨T43, L43, kk43, nn43⟩, -, X43, ⟨Lc43, hQ43, l43, y43, z43⟩, st43⟩ := Jvm.LawKit.callS X39 hx (y := (⟨"com/example/libroute/libroute/pattern/RoutePattern", "isName", "(Ljava/lang/String;II)Z"⟩ : MethodName)) hown (mvT hZ (hw _ (List.mem_of_getElem? (i := 38) rfl))) (mvT hZ (hw _ (List.mem_of_getElem? (i := 39) rfl))) (mvT hZ (hw _ (List.mem_of_getElem? (i := 40) rfl))) (mvT hZ (hw _ (List.mem_of_getElem? (i := 41) rfl))) (by decide) (backOf (W := 0) (rmNm l Z a0 hw [] b16 t20 kb20 (4 : Int32) _ ([(nar .char ((p0 &&& (255 : Int32)).toUInt32.toUInt16.toUInt32.toInt32)), (nar .char ((p1 &&& (255 : Int32)).toUInt32.toUInt16.toUInt32.toInt32)), (nar .char ((p2 &&& (255 : Int32)).toUInt32.toUInt16.toUInt32.toInt32)), (nar .char ((p3 &&& (255 : Int32)).toUInt32.toUInt16.toUInt32.toInt32))] : List Int32) a b G1 G3 T20.heap n0 z20 Ex20 Fv20 Fc20 Va20 hcd20 (own_up _ hp19) (Nat.le_of_ble_eq_true rfl) (by omega) (by show b ≤ 4; omega) O2 P5 (((((((X00.ext E2).wr W5 (Nat.le_trans Z0 (Nat.le_trans K0.1 (Nat.le_of_eq g2.symm)))).wr W8 (Nat.le_trans Z0 (Nat.le_trans K0.1 (Nat.le_of_eq g2.symm)))).wr W11 (Nat.le_trans Z0 (Nat.le_trans K0.1 (Nat.le_of_eq g2.symm)))).wr W14 (Nat.le_trans Z0 (Nat.le_trans K0.1 (Nat.le_of_eq g2.symm)))).ext E16).keep Kq20 (allS (Nat.le_trans Z0 (Nat.le_trans K14.1 (Nat.le_of_eq g16.symm))) all0)) O4 rG3) hZ (hw _ (List.mem_of_getElem? (i := 41) rfl)) (hw _ (List.mem_of_getElem? (i := 40) rfl)) (by decide) (by decide)) (g := (mkF m 154 #[.val (.int p0), .val (.int p1), .val (.int p2), .val (.int p3), .val (.int p4), .val (.int p5), .val (.ref b2), .val (.ref b16), .val (.int (Int32.ofNat a)), .val (.int (Int32.ofNat b)), .val (.int (0 : Int32)), .unset] [(.int (Int32.ofNat b)), (.int (Int32.ofNat a)), (.ref b16)])) rfl (by rw [hml]; rfl) (argsL := [(.ref b16), (.int (Int32.ofNat a)), (.int (Int32.ofNat b))]) (rest := []) (lenOf pd_oLjavaslangsStringeIIcZ rfl) rfl (by show 2 * 0 + _ ≤ _; exact Nat.le_of_eq rfl) (hb hby at_154) (fun _ _ => ⟨rfl, eq39, (by decide : 3 + 0 ≤ _), (by decide : 12 + 0 ≤ _)⟩)
        dsimp only [Pt.U, Pt.locs, Pt.cells, Pt.slots] at X43 l43 y43 z43 st43 hQ43
        subst l43 y43 z43
        obtain ⟨q43, rfl, hq43, Nq43, eq43⟩ := hQ43
        have c44 : Steps p.tables e below S0 (T43.setTop (mkF m 157 #[.val (.int p0), .val (.int p1), .val (.int p2), .val (.int p3), .val (.int p4), .val (.int p5), .val (.ref b2), .val (.ref b16), .val (.int (Int32.ofNat a)), .val (.int (Int32.ofNat b)), .val (.int (0 : Int32)), .unset] [(.int q43)])) := c42.trans (st43 _ (Steps.refl _))
        have N43 := Fr.app N39 Nq43
        have c45 : Steps p.tables e below S0 (T43.setTop (mkF m 171 #[.val (.int p0), .val (.int p1), .val (.int p2), .val (.int p3), .val (.int p4), .val (.int p5), .val (.ref b2), .val (.ref b16), .val (.int (Int32.ofNat a)), .val (.int (Int32.ofNat b)), .val (.int (0 : Int32)), .val (.int q43)] [(.int (1 : Int32))])) := c44.trans (by
          show Steps p.tables e below (T43.setTop (mkF m 157 #[.val (.int p0), .val (.int p1), .val (.int p2), .val (.int p3), .val (.int p4), .val (.int p5), .val (.ref b2), .val (.ref b16), .val (.int (Int32.ofNat a)), .val (.int (Int32.ofNat b)), .val (.int (0 : Int32)), .unset] [(.int q43)])) _
          refine XS.istore X43.here hx rfl (hb hby at_157) rfl (l' := #[.val (.int p0), .val (.int p1), .val (.int p2), .val (.int p3), .val (.int p4), .val (.int p5), .val (.ref b2), .val (.ref b16), .val (.int (Int32.ofNat a)), .val (.int (Int32.ofNat b)), .val (.int (0 : Int32)), .val (.int q43)]) rfl ?_
          show Steps p.tables e below (T43.setTop (mkF m 159 #[.val (.int p0), .val (.int p1), .val (.int p2), .val (.int p3), .val (.int p4), .val (.int p5), .val (.ref b2), .val (.ref b16), .val (.int (Int32.ofNat a)), .val (.int (Int32.ofNat b)), .val (.int (0 : Int32)), .val (.int q43)] [])) _
          refine XS.iload X43.here hx rfl (hb hby at_159) rfl ?_
          show Steps p.tables e below (T43.setTop (mkF m 161 #[.val (.int p0), .val (.int p1), .val (.int p2), .val (.int p3), .val (.int p4), .val (.int p5), .val (.ref b2), .val (.ref b16), .val (.int (Int32.ofNat a)), .val (.int (Int32.ofNat b)), .val (.int (0 : Int32)), .val (.int q43)] [(.int q43)])) _
          refine XS.iload X43.here hx rfl (hb hby at_161) rfl ?_
          show Steps p.tables e below (T43.setTop (mkF m 163 #[.val (.int p0), .val (.int p1), .val (.int p2), .val (.int p3), .val (.int p4), .val (.int p5), .val (.ref b2), .val (.ref b16), .val (.int (Int32.ofNat a)), .val (.int (Int32.ofNat b)), .val (.int (0 : Int32)), .val (.int q43)] [(.int (0 : Int32)), (.int q43)])) _
          refine XS.icmpNo X43.here hx rfl (hb hby at_163) rfl (teq (own_is0 hq43 (own_notk rfl (own_n hr39 hq41)))).2 ?_
          show Steps p.tables e below (T43.setTop (mkF m 166 #[.val (.int p0), .val (.int p1), .val (.int p2), .val (.int p3), .val (.int p4), .val (.int p5), .val (.ref b2), .val (.ref b16), .val (.int (Int32.ofNat a)), .val (.int (Int32.ofNat b)), .val (.int (0 : Int32)), .val (.int q43)] [])) _
          refine XS.iconst X43.here hx rfl (hb hby at_166) ?_
          show Steps p.tables e below (T43.setTop (mkF m 167 #[.val (.int p0), .val (.int p1), .val (.int p2), .val (.int p3), .val (.int p4), .val (.int p5), .val (.ref b2), .val (.ref b16), .val (.int (Int32.ofNat a)), .val (.int (Int32.ofNat b)), .val (.int (0 : Int32)), .val (.int q43)] [(.int (1 : Int32))])) _
          refine XS.goto X43.here hx rfl (pc0 := 167) (pc' := 171) rfl (hb hby at_167) (by decide) (by decide) ?_
          exact Steps.refl _)
        obtain ⟨fs, hr, hrun, hended, hW, hsame⟩ := X43.leave (v := some (.int (1 : Int32))) (fun h => by rw [Bd.returns] at h; cases h)
        refine ⟨_, _, c45.trans (retOut X43 hx Bd.returns rfl (Or.inl ⟨rfl, by simp, _, rfl⟩) (hb hby at_171) hr), hrun, hended, _, _, rfl, ?_, ⟨_, rfl⟩, hW, hsame.mono (by decide) (by decide)⟩
        show Q0 Z  h0 n0 _ T43.heap _
        rw [eq43]
        exact ⟨rfl, N43⟩
      · have c46 : Steps p.tables e below S0 (T39.setTop (mkF m 119 #[.val (.int p0), .val (.int p1), .val (.int p2), .val (.int p3), .val (.int p4), .val (.int p5), .val (.ref b2), .val (.ref b16), .val (.int (Int32.ofNat a)), .val (.int (Int32.ofNat b)), .unset, .unset] [(.int (2 : Int32)), (.ref b2), (.int (Int32.ofNat b)), (.int (Int32.ofNat a)), (.int (2 : Int32))])) := c40.trans (by
          show Steps p.tables e below (T39.setTop (mkF m 108 #[.val (.int p0), .val (.int p1), .val (.int p2), .val (.int p3), .val (.int p4), .val (.int p5), .val (.ref b2), .val (.ref b16), .val (.int (Int32.ofNat a)), .val (.int (Int32.ofNat b)), .unset, .unset] [(.int r39)])) _
          refine XS.ifNo X39.here hx rfl (hb hby at_108) rfl ((if0 _ _).trans (feq hq41).1) ?_
          show Steps p.tables e below (T39.setTop (mkF m 111 #[.val (.int p0), .val (.int p1), .val (.int p2), .val (.int p3), .val (.int p4), .val (.int p5), .val (.ref b2), .val (.ref b16), .val (.int (Int32.ofNat a)), .val (.int (Int32.ofNat b)), .unset, .unset] [])) _
          refine XS.iconst X39.here hx rfl (hb hby at_111) ?_
          show Steps p.tables e below (T39.setTop (mkF m 112 #[.val (.int p0), .val (.int p1), .val (.int p2), .val (.int p3), .val (.int p4), .val (.int p5), .val (.ref b2), .val (.ref b16), .val (.int (Int32.ofNat a)), .val (.int (Int32.ofNat b)), .unset, .unset] [(.int (2 : Int32))])) _
          refine XS.iload X39.here hx rfl (hb hby at_112) rfl ?_
          show Steps p.tables e below (T39.setTop (mkF m 114 #[.val (.int p0), .val (.int p1), .val (.int p2), .val (.int p3), .val (.int p4), .val (.int p5), .val (.ref b2), .val (.ref b16), .val (.int (Int32.ofNat a)), .val (.int (Int32.ofNat b)), .unset, .unset] [(.int (Int32.ofNat a)), (.int (2 : Int32))])) _
          refine XS.iload X39.here hx rfl (hb hby at_114) rfl ?_
          show Steps p.tables e below (T39.setTop (mkF m 116 #[.val (.int p0), .val (.int p1), .val (.int p2), .val (.int p3), .val (.int p4), .val (.int p5), .val (.ref b2), .val (.ref b16), .val (.int (Int32.ofNat a)), .val (.int (Int32.ofNat b)), .unset, .unset] [(.int (Int32.ofNat b)), (.int (Int32.ofNat a)), (.int (2 : Int32))])) _
          refine XS.aload X39.here hx rfl (hb hby at_116) rfl rfl ?_
          show Steps p.tables e below (T39.setTop (mkF m 118 #[.val (.int p0), .val (.int p1), .val (.int p2), .val (.int p3), .val (.int p4), .val (.int p5), .val (.ref b2), .val (.ref b16), .val (.int (Int32.ofNat a)), .val (.int (Int32.ofNat b)), .unset, .unset] [(.ref b2), (.int (Int32.ofNat b)), (.int (Int32.ofNat a)), (.int (2 : Int32))])) _
          refine XS.iconst X39.here hx rfl (hb hby at_118) ?_
          exact Steps.refl _)
        obtain ⟨cl47, Ar47, -, S47, -, Ha47, -⟩ := id ((V14.ext E16).keep Kq20 (ninS (Nat.ne_of_lt (Nat.lt_of_lt_of_le (Nat.lt_of_lt_of_le lt_b2 (Nat.le_trans (Nat.le_trans (Nat.le_trans (Keep.of_wr W5).1 (Keep.of_wr W8).1) (Keep.of_wr W11).1) (Keep.of_wr W14).1)) (Nat.le_of_eq g16.symm))) nin0))
        have c48 : Steps p.tables e below S0 (T39.setTop (mkF m 120 #[.val (.int p0), .val (.int p1), .val (.int p2), .val (.int p3), .val (.int p4), .val (.int p5), .val (.ref b2), .val (.ref b16), .val (.int (Int32.ofNat a)), .val (.int (Int32.ofNat b)), .unset, .unset] [(.int (nar .char ((p2 &&& (255 : Int32)).toUInt32.toUInt16.toUInt32.toInt32))), (.int (Int32.ofNat b)), (.int (Int32.ofNat a)), (.int (2 : Int32))])) := c46.trans (by
          show Steps p.tables e below (T39.setTop (mkF m 119 #[.val (.int p0), .val (.int p1), .val (.int p2), .val (.int p3), .val (.int p4), .val (.int p5), .val (.ref b2), .val (.ref b16), .val (.int (Int32.ofNat a)), .val (.int (Int32.ofNat b)), .unset, .unset] [(.int (2 : Int32)), (.ref b2), (.int (Int32.ofNat b)), (.int (Int32.ofNat a)), (.int (2 : Int32))])) _
          refine X39.caload hx (j := (2 : Int32)) (v := (.int (nar .char ((p2 &&& (255 : Int32)).toUInt32.toUInt16.toUInt32.toInt32)))) (by rw [eq39]; exact Ar47.1) (State.isArrayOf_alike hZ.alike Ar47.2.1) Ar47.2.2 (inb_of S47 ⟨by decide, by decide⟩) (Ha47.at (inb_of S47 ⟨by decide, by decide⟩) rfl) (g := (mkF m 119 #[.val (.int p0), .val (.int p1), .val (.int p2), .val (.int p3), .val (.int p4), .val (.int p5), .val (.ref b2), .val (.ref b16), .val (.int (Int32.ofNat a)), .val (.int (Int32.ofNat b)), .unset, .unset] [(.int (2 : Int32)), (.ref b2), (.int (Int32.ofNat b)), (.int (Int32.ofNat a)), (.int (2 : Int32))])) rfl rfl (hb hby at_119) _ ?_
          exact Steps.refl _)
        obtain ⟨_, _, ⟨T49, L49, kk49, nn49⟩, -, X49, ⟨Lc49, hQ49, l49, y49, z49⟩, st49⟩ := Jvm.LawKit.callS X39 hx (y := (⟨"com/example/libroute/libroute/pattern/RoutePatternIsNamePinLaw", "inside", "(IIIC)Z"⟩ : MethodName)) hown (mvT hZ (hw _ (List.mem_of_getElem? (i := 31) rfl))) (mvT hZ (hw _ (List.mem_of_getElem? (i := 32) rfl))) (mvT hZ (hw _ (List.mem_of_getElem? (i := 33) rfl))) (mvT hZ (hw _ (List.mem_of_getElem? (i := 34) rfl))) (by decide) (backOf (W := 0) (rmIn l Z a0 hw [] 2 a b (nar .char ((p2 &&& (255 : Int32)).toUInt32.toUInt16.toUInt32.toInt32)) T20.heap n0 z20 (by omega) (by omega) (by omega)) hZ (hw _ (List.mem_of_getElem? (i := 34) rfl)) (hw _ (List.mem_of_getElem? (i := 33) rfl)) (by decide) (by decide)) (g := (mkF m 120 #[.val (.int p0), .val (.int p1), .val (.int p2), .val (.int p3), .val (.int p4), .val (.int p5), .val (.ref b2), .val (.ref b16), .val (.int (Int32.ofNat a)), .val (.int (Int32.ofNat b)), .unset, .unset] [(.int (nar .char ((p2 &&& (255 : Int32)).toUInt32.toUInt16.toUInt32.toInt32))), (.int (Int32.ofNat b)), (.int (Int32.ofNat a)), (.int (2 : Int32))])) rfl (by rw [hml]; rfl) (argsL := [(.int (2 : Int32)), (.int (Int32.ofNat a)), (.int (Int32.ofNat b)), (.int (nar .char ((p2 &&& (255 : Int32)).toUInt32.toUInt16.toUInt32.toInt32)))]) (rest := []) (lenOf pd_oIIICcZ rfl) rfl (by show 2 * 0 + _ ≤ _; exact Nat.le_of_eq rfl) (hb hby at_120) (fun _ _ => ⟨rfl, eq39, (by decide : 3 + 0 ≤ _), (by decide : 12 + 0 ≤ _)⟩)
        dsimp only [Pt.U, Pt.locs, Pt.cells, Pt.slots] at X49 l49 y49 z49 st49 hQ49
        subst l49 y49 z49
        obtain ⟨r49, rfl, hr49, Nq49, eq49⟩ := hQ49
        have c50 : Steps p.tables e below S0 (T49.setTop (mkF m 123 #[.val (.int p0), .val (.int p1), .val (.int p2), .val (.int p3), .val (.int p4), .val (.int p5), .val (.ref b2), .val (.ref b16), .val (.int (Int32.ofNat a)), .val (.int (Int32.ofNat b)), .unset, .unset] [(.int r49)])) := c48.trans (st49 _ (Steps.refl _))
        have N49 := Fr.app N39 Nq49
        by_cases hq51 : r49 = (0 : Int32)
        · have c52 : Steps p.tables e below S0 (T49.setTop (mkF m 154 #[.val (.int p0), .val (.int p1), .val (.int p2), .val (.int p3), .val (.int p4), .val (.int p5), .val (.ref b2), .val (.ref b16), .val (.int (Int32.ofNat a)), .val (.int (Int32.ofNat b)), .val (.int (0 : Int32)), .unset] [(.int (Int32.ofNat b)), (.int (Int32.ofNat a)), (.ref b16)])) := c50.trans (by
            show Steps p.tables e below (T49.setTop (mkF m 123 #[.val (.int p0), .val (.int p1), .val (.int p2), .val (.int p3), .val (.int p4), .val (.int p5), .val (.ref b2), .val (.ref b16), .val (.int (Int32.ofNat a)), .val (.int (Int32.ofNat b)), .unset, .unset] [(.int r49)])) _
            refine XS.ifYes X49.here hx rfl (pc0 := 123) (pc' := 145) rfl (hb hby at_123) rfl ((if0 _ _).trans (teq hq51).1) (by decide) (by decide) ?_
            show Steps p.tables e below (T49.setTop (mkF m 145 #[.val (.int p0), .val (.int p1), .val (.int p2), .val (.int p3), .val (.int p4), .val (.int p5), .val (.ref b2), .val (.ref b16), .val (.int (Int32.ofNat a)), .val (.int (Int32.ofNat b)), .unset, .unset] [])) _
            refine XS.iconst X49.here hx rfl (hb hby at_145) ?_
            show Steps p.tables e below (T49.setTop (mkF m 146 #[.val (.int p0), .val (.int p1), .val (.int p2), .val (.int p3), .val (.int p4), .val (.int p5), .val (.ref b2), .val (.ref b16), .val (.int (Int32.ofNat a)), .val (.int (Int32.ofNat b)), .unset, .unset] [(.int (0 : Int32))])) _
            refine XS.istore X49.here hx rfl (hb hby at_146) rfl (l' := #[.val (.int p0), .val (.int p1), .val (.int p2), .val (.int p3), .val (.int p4), .val (.int p5), .val (.ref b2), .val (.ref b16), .val (.int (Int32.ofNat a)), .val (.int (Int32.ofNat b)), .val (.int (0 : Int32)), .unset]) rfl ?_
            show Steps p.tables e below (T49.setTop (mkF m 148 #[.val (.int p0), .val (.int p1), .val (.int p2), .val (.int p3), .val (.int p4), .val (.int p5), .val (.ref b2), .val (.ref b16), .val (.int (Int32.ofNat a)), .val (.int (Int32.ofNat b)), .val (.int (0 : Int32)), .unset] [])) _
            refine XS.aload X49.here hx rfl (hb hby at_148) rfl rfl ?_
            show Steps p.tables e below (T49.setTop (mkF m 150 #[.val (.int p0), .val (.int p1), .val (.int p2), .val (.int p3), .val (.int p4), .val (.int p5), .val (.ref b2), .val (.ref b16), .val (.int (Int32.ofNat a)), .val (.int (Int32.ofNat b)), .val (.int (0 : Int32)), .unset] [(.ref b16)])) _
            refine XS.iload X49.here hx rfl (hb hby at_150) rfl ?_
            show Steps p.tables e below (T49.setTop (mkF m 152 #[.val (.int p0), .val (.int p1), .val (.int p2), .val (.int p3), .val (.int p4), .val (.int p5), .val (.ref b2), .val (.ref b16), .val (.int (Int32.ofNat a)), .val (.int (Int32.ofNat b)), .val (.int (0 : Int32)), .unset] [(.int (Int32.ofNat a)), (.ref b16)])) _
            refine XS.iload X49.here hx rfl (hb hby at_152) rfl ?_
            exact Steps.refl _)
          obtain ⟨_, _, ⟨T53, L53, kk53, nn53⟩, -, X53, ⟨Lc53, hQ53, l53, y53, z53⟩, st53⟩ := Jvm.LawKit.callS X49 hx (y := (⟨"com/example/libroute/libroute/pattern/RoutePattern", "isName", "(Ljava/lang/String;II)Z"⟩ : MethodName)) hown (mvT hZ (hw _ (List.mem_of_getElem? (i := 38) rfl))) (mvT hZ (hw _ (List.mem_of_getElem? (i := 39) rfl))) (mvT hZ (hw _ (List.mem_of_getElem? (i := 40) rfl))) (mvT hZ (hw _ (List.mem_of_getElem? (i := 41) rfl))) (by decide) (backOf (W := 0) (rmNm l Z a0 hw [] b16 t20 kb20 (4 : Int32) _ ([(nar .char ((p0 &&& (255 : Int32)).toUInt32.toUInt16.toUInt32.toInt32)), (nar .char ((p1 &&& (255 : Int32)).toUInt32.toUInt16.toUInt32.toInt32)), (nar .char ((p2 &&& (255 : Int32)).toUInt32.toUInt16.toUInt32.toInt32)), (nar .char ((p3 &&& (255 : Int32)).toUInt32.toUInt16.toUInt32.toInt32))] : List Int32) a b G1 G3 T20.heap n0 z20 Ex20 Fv20 Fc20 Va20 hcd20 (own_up _ hp19) (Nat.le_of_ble_eq_true rfl) (by omega) (by show b ≤ 4; omega) O2 P5 (((((((X00.ext E2).wr W5 (Nat.le_trans Z0 (Nat.le_trans K0.1 (Nat.le_of_eq g2.symm)))).wr W8 (Nat.le_trans Z0 (Nat.le_trans K0.1 (Nat.le_of_eq g2.symm)))).wr W11 (Nat.le_trans Z0 (Nat.le_trans K0.1 (Nat.le_of_eq g2.symm)))).wr W14 (Nat.le_trans Z0 (Nat.le_trans K0.1 (Nat.le_of_eq g2.symm)))).ext E16).keep Kq20 (allS (Nat.le_trans Z0 (Nat.le_trans K14.1 (Nat.le_of_eq g16.symm))) all0)) O4 rG3) hZ (hw _ (List.mem_of_getElem? (i := 41) rfl)) (hw _ (List.mem_of_getElem? (i := 40) rfl)) (by decide) (by decide)) (g := (mkF m 154 #[.val (.int p0), .val (.int p1), .val (.int p2), .val (.int p3), .val (.int p4), .val (.int p5), .val (.ref b2), .val (.ref b16), .val (.int (Int32.ofNat a)), .val (.int (Int32.ofNat b)), .val (.int (0 : Int32)), .unset] [(.int (Int32.ofNat b)), (.int (Int32.ofNat a)), (.ref b16)])) rfl (by rw [hml]; rfl) (argsL := [(.ref b16), (.int (Int32.ofNat a)), (.int (Int32.ofNat b))]) (rest := []) (lenOf pd_oLjavaslangsStringeIIcZ rfl) rfl (by show 2 * 0 + _ ≤ _; exact Nat.le_of_eq rfl) (hb hby at_154) (fun _ _ => ⟨rfl, eq49, (by decide : 3 + 0 ≤ _), (by decide : 12 + 0 ≤ _)⟩)
          dsimp only [Pt.U, Pt.locs, Pt.cells, Pt.slots] at X53 l53 y53 z53 st53 hQ53
          subst l53 y53 z53
          obtain ⟨q53, rfl, hq53, Nq53, eq53⟩ := hQ53
          have c54 : Steps p.tables e below S0 (T53.setTop (mkF m 157 #[.val (.int p0), .val (.int p1), .val (.int p2), .val (.int p3), .val (.int p4), .val (.int p5), .val (.ref b2), .val (.ref b16), .val (.int (Int32.ofNat a)), .val (.int (Int32.ofNat b)), .val (.int (0 : Int32)), .unset] [(.int q53)])) := c52.trans (st53 _ (Steps.refl _))
          have N53 := Fr.app N49 Nq53
          have c55 : Steps p.tables e below S0 (T53.setTop (mkF m 171 #[.val (.int p0), .val (.int p1), .val (.int p2), .val (.int p3), .val (.int p4), .val (.int p5), .val (.ref b2), .val (.ref b16), .val (.int (Int32.ofNat a)), .val (.int (Int32.ofNat b)), .val (.int (0 : Int32)), .val (.int q53)] [(.int (1 : Int32))])) := c54.trans (by
            show Steps p.tables e below (T53.setTop (mkF m 157 #[.val (.int p0), .val (.int p1), .val (.int p2), .val (.int p3), .val (.int p4), .val (.int p5), .val (.ref b2), .val (.ref b16), .val (.int (Int32.ofNat a)), .val (.int (Int32.ofNat b)), .val (.int (0 : Int32)), .unset] [(.int q53)])) _
            refine XS.istore X53.here hx rfl (hb hby at_157) rfl (l' := #[.val (.int p0), .val (.int p1), .val (.int p2), .val (.int p3), .val (.int p4), .val (.int p5), .val (.ref b2), .val (.ref b16), .val (.int (Int32.ofNat a)), .val (.int (Int32.ofNat b)), .val (.int (0 : Int32)), .val (.int q53)]) rfl ?_
            show Steps p.tables e below (T53.setTop (mkF m 159 #[.val (.int p0), .val (.int p1), .val (.int p2), .val (.int p3), .val (.int p4), .val (.int p5), .val (.ref b2), .val (.ref b16), .val (.int (Int32.ofNat a)), .val (.int (Int32.ofNat b)), .val (.int (0 : Int32)), .val (.int q53)] [])) _
            refine XS.iload X53.here hx rfl (hb hby at_159) rfl ?_
            show Steps p.tables e below (T53.setTop (mkF m 161 #[.val (.int p0), .val (.int p1), .val (.int p2), .val (.int p3), .val (.int p4), .val (.int p5), .val (.ref b2), .val (.ref b16), .val (.int (Int32.ofNat a)), .val (.int (Int32.ofNat b)), .val (.int (0 : Int32)), .val (.int q53)] [(.int q53)])) _
            refine XS.iload X53.here hx rfl (hb hby at_161) rfl ?_
            show Steps p.tables e below (T53.setTop (mkF m 163 #[.val (.int p0), .val (.int p1), .val (.int p2), .val (.int p3), .val (.int p4), .val (.int p5), .val (.ref b2), .val (.ref b16), .val (.int (Int32.ofNat a)), .val (.int (Int32.ofNat b)), .val (.int (0 : Int32)), .val (.int q53)] [(.int (0 : Int32)), (.int q53)])) _
            refine XS.icmpNo X53.here hx rfl (hb hby at_163) rfl (teq (own_is0 hq53 (own_notk rfl (own_n hr49 hq51)))).2 ?_
            show Steps p.tables e below (T53.setTop (mkF m 166 #[.val (.int p0), .val (.int p1), .val (.int p2), .val (.int p3), .val (.int p4), .val (.int p5), .val (.ref b2), .val (.ref b16), .val (.int (Int32.ofNat a)), .val (.int (Int32.ofNat b)), .val (.int (0 : Int32)), .val (.int q53)] [])) _
            refine XS.iconst X53.here hx rfl (hb hby at_166) ?_
            show Steps p.tables e below (T53.setTop (mkF m 167 #[.val (.int p0), .val (.int p1), .val (.int p2), .val (.int p3), .val (.int p4), .val (.int p5), .val (.ref b2), .val (.ref b16), .val (.int (Int32.ofNat a)), .val (.int (Int32.ofNat b)), .val (.int (0 : Int32)), .val (.int q53)] [(.int (1 : Int32))])) _
            refine XS.goto X53.here hx rfl (pc0 := 167) (pc' := 171) rfl (hb hby at_167) (by decide) (by decide) ?_
            exact Steps.refl _)
          obtain ⟨fs, hr, hrun, hended, hW, hsame⟩ := X53.leave (v := some (.int (1 : Int32))) (fun h => by rw [Bd.returns] at h; cases h)
          refine ⟨_, _, c55.trans (retOut X53 hx Bd.returns rfl (Or.inl ⟨rfl, by simp, _, rfl⟩) (hb hby at_171) hr), hrun, hended, _, _, rfl, ?_, ⟨_, rfl⟩, hW, hsame.mono (by decide) (by decide)⟩
          show Q0 Z  h0 n0 _ T53.heap _
          rw [eq53]
          exact ⟨rfl, N53⟩
        · have c56 : Steps p.tables e below S0 (T49.setTop (mkF m 134 #[.val (.int p0), .val (.int p1), .val (.int p2), .val (.int p3), .val (.int p4), .val (.int p5), .val (.ref b2), .val (.ref b16), .val (.int (Int32.ofNat a)), .val (.int (Int32.ofNat b)), .unset, .unset] [(.int (3 : Int32)), (.ref b2), (.int (Int32.ofNat b)), (.int (Int32.ofNat a)), (.int (3 : Int32))])) := c50.trans (by
            show Steps p.tables e below (T49.setTop (mkF m 123 #[.val (.int p0), .val (.int p1), .val (.int p2), .val (.int p3), .val (.int p4), .val (.int p5), .val (.ref b2), .val (.ref b16), .val (.int (Int32.ofNat a)), .val (.int (Int32.ofNat b)), .unset, .unset] [(.int r49)])) _
            refine XS.ifNo X49.here hx rfl (hb hby at_123) rfl ((if0 _ _).trans (feq hq51).1) ?_
            show Steps p.tables e below (T49.setTop (mkF m 126 #[.val (.int p0), .val (.int p1), .val (.int p2), .val (.int p3), .val (.int p4), .val (.int p5), .val (.ref b2), .val (.ref b16), .val (.int (Int32.ofNat a)), .val (.int (Int32.ofNat b)), .unset, .unset] [])) _
            refine XS.iconst X49.here hx rfl (hb hby at_126) ?_
            show Steps p.tables e below (T49.setTop (mkF m 127 #[.val (.int p0), .val (.int p1), .val (.int p2), .val (.int p3), .val (.int p4), .val (.int p5), .val (.ref b2), .val (.ref b16), .val (.int (Int32.ofNat a)), .val (.int (Int32.ofNat b)), .unset, .unset] [(.int (3 : Int32))])) _
            refine XS.iload X49.here hx rfl (hb hby at_127) rfl ?_
            show Steps p.tables e below (T49.setTop (mkF m 129 #[.val (.int p0), .val (.int p1), .val (.int p2), .val (.int p3), .val (.int p4), .val (.int p5), .val (.ref b2), .val (.ref b16), .val (.int (Int32.ofNat a)), .val (.int (Int32.ofNat b)), .unset, .unset] [(.int (Int32.ofNat a)), (.int (3 : Int32))])) _
            refine XS.iload X49.here hx rfl (hb hby at_129) rfl ?_
            show Steps p.tables e below (T49.setTop (mkF m 131 #[.val (.int p0), .val (.int p1), .val (.int p2), .val (.int p3), .val (.int p4), .val (.int p5), .val (.ref b2), .val (.ref b16), .val (.int (Int32.ofNat a)), .val (.int (Int32.ofNat b)), .unset, .unset] [(.int (Int32.ofNat b)), (.int (Int32.ofNat a)), (.int (3 : Int32))])) _
            refine XS.aload X49.here hx rfl (hb hby at_131) rfl rfl ?_
            show Steps p.tables e below (T49.setTop (mkF m 133 #[.val (.int p0), .val (.int p1), .val (.int p2), .val (.int p3), .val (.int p4), .val (.int p5), .val (.ref b2), .val (.ref b16), .val (.int (Int32.ofNat a)), .val (.int (Int32.ofNat b)), .unset, .unset] [(.ref b2), (.int (Int32.ofNat b)), (.int (Int32.ofNat a)), (.int (3 : Int32))])) _
            refine XS.iconst X49.here hx rfl (hb hby at_133) ?_
            exact Steps.refl _)
          obtain ⟨cl57, Ar57, -, S57, -, Ha57, -⟩ := id ((V14.ext E16).keep Kq20 (ninS (Nat.ne_of_lt (Nat.lt_of_lt_of_le (Nat.lt_of_lt_of_le lt_b2 (Nat.le_trans (Nat.le_trans (Nat.le_trans (Keep.of_wr W5).1 (Keep.of_wr W8).1) (Keep.of_wr W11).1) (Keep.of_wr W14).1)) (Nat.le_of_eq g16.symm))) nin0))
          have c58 : Steps p.tables e below S0 (T49.setTop (mkF m 135 #[.val (.int p0), .val (.int p1), .val (.int p2), .val (.int p3), .val (.int p4), .val (.int p5), .val (.ref b2), .val (.ref b16), .val (.int (Int32.ofNat a)), .val (.int (Int32.ofNat b)), .unset, .unset] [(.int (nar .char ((p3 &&& (255 : Int32)).toUInt32.toUInt16.toUInt32.toInt32))), (.int (Int32.ofNat b)), (.int (Int32.ofNat a)), (.int (3 : Int32))])) := c56.trans (by
            show Steps p.tables e below (T49.setTop (mkF m 134 #[.val (.int p0), .val (.int p1), .val (.int p2), .val (.int p3), .val (.int p4), .val (.int p5), .val (.ref b2), .val (.ref b16), .val (.int (Int32.ofNat a)), .val (.int (Int32.ofNat b)), .unset, .unset] [(.int (3 : Int32)), (.ref b2), (.int (Int32.ofNat b)), (.int (Int32.ofNat a)), (.int (3 : Int32))])) _
            refine X49.caload hx (j := (3 : Int32)) (v := (.int (nar .char ((p3 &&& (255 : Int32)).toUInt32.toUInt16.toUInt32.toInt32)))) (by rw [eq49]; exact Ar57.1) (State.isArrayOf_alike hZ.alike Ar57.2.1) Ar57.2.2 (inb_of S57 ⟨by decide, by decide⟩) (Ha57.at (inb_of S57 ⟨by decide, by decide⟩) rfl) (g := (mkF m 134 #[.val (.int p0), .val (.int p1), .val (.int p2), .val (.int p3), .val (.int p4), .val (.int p5), .val (.ref b2), .val (.ref b16), .val (.int (Int32.ofNat a)), .val (.int (Int32.ofNat b)), .unset, .unset] [(.int (3 : Int32)), (.ref b2), (.int (Int32.ofNat b)), (.int (Int32.ofNat a)), (.int (3 : Int32))])) rfl rfl (hb hby at_134) _ ?_
            exact Steps.refl _)
          obtain ⟨_, _, ⟨T59, L59, kk59, nn59⟩, -, X59, ⟨Lc59, hQ59, l59, y59, z59⟩, st59⟩ := Jvm.LawKit.callS X49 hx (y := (⟨"com/example/libroute/libroute/pattern/RoutePatternIsNamePinLaw", "inside", "(IIIC)Z"⟩ : MethodName)) hown (mvT hZ (hw _ (List.mem_of_getElem? (i := 31) rfl))) (mvT hZ (hw _ (List.mem_of_getElem? (i := 32) rfl))) (mvT hZ (hw _ (List.mem_of_getElem? (i := 33) rfl))) (mvT hZ (hw _ (List.mem_of_getElem? (i := 34) rfl))) (by decide) (backOf (W := 0) (rmIn l Z a0 hw [] 3 a b (nar .char ((p3 &&& (255 : Int32)).toUInt32.toUInt16.toUInt32.toInt32)) T20.heap n0 z20 (by omega) (by omega) (by omega)) hZ (hw _ (List.mem_of_getElem? (i := 34) rfl)) (hw _ (List.mem_of_getElem? (i := 33) rfl)) (by decide) (by decide)) (g := (mkF m 135 #[.val (.int p0), .val (.int p1), .val (.int p2), .val (.int p3), .val (.int p4), .val (.int p5), .val (.ref b2), .val (.ref b16), .val (.int (Int32.ofNat a)), .val (.int (Int32.ofNat b)), .unset, .unset] [(.int (nar .char ((p3 &&& (255 : Int32)).toUInt32.toUInt16.toUInt32.toInt32))), (.int (Int32.ofNat b)), (.int (Int32.ofNat a)), (.int (3 : Int32))])) rfl (by rw [hml]; rfl) (argsL := [(.int (3 : Int32)), (.int (Int32.ofNat a)), (.int (Int32.ofNat b)), (.int (nar .char ((p3 &&& (255 : Int32)).toUInt32.toUInt16.toUInt32.toInt32)))]) (rest := []) (lenOf pd_oIIICcZ rfl) rfl (by show 2 * 0 + _ ≤ _; exact Nat.le_of_eq rfl) (hb hby at_135) (fun _ _ => ⟨rfl, eq49, (by decide : 3 + 0 ≤ _), (by decide : 12 + 0 ≤ _)⟩)
          dsimp only [Pt.U, Pt.locs, Pt.cells, Pt.slots] at X59 l59 y59 z59 st59 hQ59
          subst l59 y59 z59
          obtain ⟨r59, rfl, hr59, Nq59, eq59⟩ := hQ59
          have c60 : Steps p.tables e below S0 (T59.setTop (mkF m 138 #[.val (.int p0), .val (.int p1), .val (.int p2), .val (.int p3), .val (.int p4), .val (.int p5), .val (.ref b2), .val (.ref b16), .val (.int (Int32.ofNat a)), .val (.int (Int32.ofNat b)), .unset, .unset] [(.int r59)])) := c58.trans (st59 _ (Steps.refl _))
          have N59 := Fr.app N49 Nq59
          by_cases hq61 : r59 = (0 : Int32)
          · have c62 : Steps p.tables e below S0 (T59.setTop (mkF m 154 #[.val (.int p0), .val (.int p1), .val (.int p2), .val (.int p3), .val (.int p4), .val (.int p5), .val (.ref b2), .val (.ref b16), .val (.int (Int32.ofNat a)), .val (.int (Int32.ofNat b)), .val (.int (0 : Int32)), .unset] [(.int (Int32.ofNat b)), (.int (Int32.ofNat a)), (.ref b16)])) := c60.trans (by
              show Steps p.tables e below (T59.setTop (mkF m 138 #[.val (.int p0), .val (.int p1), .val (.int p2), .val (.int p3), .val (.int p4), .val (.int p5), .val (.ref b2), .val (.ref b16), .val (.int (Int32.ofNat a)), .val (.int (Int32.ofNat b)), .unset, .unset] [(.int r59)])) _
              refine XS.ifYes X59.here hx rfl (pc0 := 138) (pc' := 145) rfl (hb hby at_138) rfl ((if0 _ _).trans (teq hq61).1) (by decide) (by decide) ?_
              show Steps p.tables e below (T59.setTop (mkF m 145 #[.val (.int p0), .val (.int p1), .val (.int p2), .val (.int p3), .val (.int p4), .val (.int p5), .val (.ref b2), .val (.ref b16), .val (.int (Int32.ofNat a)), .val (.int (Int32.ofNat b)), .unset, .unset] [])) _
              refine XS.iconst X59.here hx rfl (hb hby at_145) ?_
              show Steps p.tables e below (T59.setTop (mkF m 146 #[.val (.int p0), .val (.int p1), .val (.int p2), .val (.int p3), .val (.int p4), .val (.int p5), .val (.ref b2), .val (.ref b16), .val (.int (Int32.ofNat a)), .val (.int (Int32.ofNat b)), .unset, .unset] [(.int (0 : Int32))])) _
              refine XS.istore X59.here hx rfl (hb hby at_146) rfl (l' := #[.val (.int p0), .val (.int p1), .val (.int p2), .val (.int p3), .val (.int p4), .val (.int p5), .val (.ref b2), .val (.ref b16), .val (.int (Int32.ofNat a)), .val (.int (Int32.ofNat b)), .val (.int (0 : Int32)), .unset]) rfl ?_
              show Steps p.tables e below (T59.setTop (mkF m 148 #[.val (.int p0), .val (.int p1), .val (.int p2), .val (.int p3), .val (.int p4), .val (.int p5), .val (.ref b2), .val (.ref b16), .val (.int (Int32.ofNat a)), .val (.int (Int32.ofNat b)), .val (.int (0 : Int32)), .unset] [])) _
              refine XS.aload X59.here hx rfl (hb hby at_148) rfl rfl ?_
              show Steps p.tables e below (T59.setTop (mkF m 150 #[.val (.int p0), .val (.int p1), .val (.int p2), .val (.int p3), .val (.int p4), .val (.int p5), .val (.ref b2), .val (.ref b16), .val (.int (Int32.ofNat a)), .val (.int (Int32.ofNat b)), .val (.int (0 : Int32)), .unset] [(.ref b16)])) _
              refine XS.iload X59.here hx rfl (hb hby at_150) rfl ?_
              show Steps p.tables e below (T59.setTop (mkF m 152 #[.val (.int p0), .val (.int p1), .val (.int p2), .val (.int p3), .val (.int p4), .val (.int p5), .val (.ref b2), .val (.ref b16), .val (.int (Int32.ofNat a)), .val (.int (Int32.ofNat b)), .val (.int (0 : Int32)), .unset] [(.int (Int32.ofNat a)), (.ref b16)])) _
              refine XS.iload X59.here hx rfl (hb hby at_152) rfl ?_
              exact Steps.refl _)
            obtain ⟨_, _, ⟨T63, L63, kk63, nn63⟩, -, X63, ⟨Lc63, hQ63, l63, y63, z63⟩, st63⟩ := Jvm.LawKit.callS X59 hx (y := (⟨"com/example/libroute/libroute/pattern/RoutePattern", "isName", "(Ljava/lang/String;II)Z"⟩ : MethodName)) hown (mvT hZ (hw _ (List.mem_of_getElem? (i := 38) rfl))) (mvT hZ (hw _ (List.mem_of_getElem? (i := 39) rfl))) (mvT hZ (hw _ (List.mem_of_getElem? (i := 40) rfl))) (mvT hZ (hw _ (List.mem_of_getElem? (i := 41) rfl))) (by decide) (backOf (W := 0) (rmNm l Z a0 hw [] b16 t20 kb20 (4 : Int32) _ ([(nar .char ((p0 &&& (255 : Int32)).toUInt32.toUInt16.toUInt32.toInt32)), (nar .char ((p1 &&& (255 : Int32)).toUInt32.toUInt16.toUInt32.toInt32)), (nar .char ((p2 &&& (255 : Int32)).toUInt32.toUInt16.toUInt32.toInt32)), (nar .char ((p3 &&& (255 : Int32)).toUInt32.toUInt16.toUInt32.toInt32))] : List Int32) a b G1 G3 T20.heap n0 z20 Ex20 Fv20 Fc20 Va20 hcd20 (own_up _ hp19) (Nat.le_of_ble_eq_true rfl) (by omega) (by show b ≤ 4; omega) O2 P5 (((((((X00.ext E2).wr W5 (Nat.le_trans Z0 (Nat.le_trans K0.1 (Nat.le_of_eq g2.symm)))).wr W8 (Nat.le_trans Z0 (Nat.le_trans K0.1 (Nat.le_of_eq g2.symm)))).wr W11 (Nat.le_trans Z0 (Nat.le_trans K0.1 (Nat.le_of_eq g2.symm)))).wr W14 (Nat.le_trans Z0 (Nat.le_trans K0.1 (Nat.le_of_eq g2.symm)))).ext E16).keep Kq20 (allS (Nat.le_trans Z0 (Nat.le_trans K14.1 (Nat.le_of_eq g16.symm))) all0)) O4 rG3) hZ (hw _ (List.mem_of_getElem? (i := 41) rfl)) (hw _ (List.mem_of_getElem? (i := 40) rfl)) (by decide) (by decide)) (g := (mkF m 154 #[.val (.int p0), .val (.int p1), .val (.int p2), .val (.int p3), .val (.int p4), .val (.int p5), .val (.ref b2), .val (.ref b16), .val (.int (Int32.ofNat a)), .val (.int (Int32.ofNat b)), .val (.int (0 : Int32)), .unset] [(.int (Int32.ofNat b)), (.int (Int32.ofNat a)), (.ref b16)])) rfl (by rw [hml]; rfl) (argsL := [(.ref b16), (.int (Int32.ofNat a)), (.int (Int32.ofNat b))]) (rest := []) (lenOf pd_oLjavaslangsStringeIIcZ rfl) rfl (by show 2 * 0 + _ ≤ _; exact Nat.le_of_eq rfl) (hb hby at_154) (fun _ _ => ⟨rfl, eq59, (by decide : 3 + 0 ≤ _), (by decide : 12 + 0 ≤ _)⟩)
            dsimp only [Pt.U, Pt.locs, Pt.cells, Pt.slots] at X63 l63 y63 z63 st63 hQ63
            subst l63 y63 z63
            obtain ⟨q63, rfl, hq63, Nq63, eq63⟩ := hQ63
            have c64 : Steps p.tables e below S0 (T63.setTop (mkF m 157 #[.val (.int p0), .val (.int p1), .val (.int p2), .val (.int p3), .val (.int p4), .val (.int p5), .val (.ref b2), .val (.ref b16), .val (.int (Int32.ofNat a)), .val (.int (Int32.ofNat b)), .val (.int (0 : Int32)), .unset] [(.int q63)])) := c62.trans (st63 _ (Steps.refl _))
            have N63 := Fr.app N59 Nq63
            have c65 : Steps p.tables e below S0 (T63.setTop (mkF m 171 #[.val (.int p0), .val (.int p1), .val (.int p2), .val (.int p3), .val (.int p4), .val (.int p5), .val (.ref b2), .val (.ref b16), .val (.int (Int32.ofNat a)), .val (.int (Int32.ofNat b)), .val (.int (0 : Int32)), .val (.int q63)] [(.int (1 : Int32))])) := c64.trans (by
              show Steps p.tables e below (T63.setTop (mkF m 157 #[.val (.int p0), .val (.int p1), .val (.int p2), .val (.int p3), .val (.int p4), .val (.int p5), .val (.ref b2), .val (.ref b16), .val (.int (Int32.ofNat a)), .val (.int (Int32.ofNat b)), .val (.int (0 : Int32)), .unset] [(.int q63)])) _
              refine XS.istore X63.here hx rfl (hb hby at_157) rfl (l' := #[.val (.int p0), .val (.int p1), .val (.int p2), .val (.int p3), .val (.int p4), .val (.int p5), .val (.ref b2), .val (.ref b16), .val (.int (Int32.ofNat a)), .val (.int (Int32.ofNat b)), .val (.int (0 : Int32)), .val (.int q63)]) rfl ?_
              show Steps p.tables e below (T63.setTop (mkF m 159 #[.val (.int p0), .val (.int p1), .val (.int p2), .val (.int p3), .val (.int p4), .val (.int p5), .val (.ref b2), .val (.ref b16), .val (.int (Int32.ofNat a)), .val (.int (Int32.ofNat b)), .val (.int (0 : Int32)), .val (.int q63)] [])) _
              refine XS.iload X63.here hx rfl (hb hby at_159) rfl ?_
              show Steps p.tables e below (T63.setTop (mkF m 161 #[.val (.int p0), .val (.int p1), .val (.int p2), .val (.int p3), .val (.int p4), .val (.int p5), .val (.ref b2), .val (.ref b16), .val (.int (Int32.ofNat a)), .val (.int (Int32.ofNat b)), .val (.int (0 : Int32)), .val (.int q63)] [(.int q63)])) _
              refine XS.iload X63.here hx rfl (hb hby at_161) rfl ?_
              show Steps p.tables e below (T63.setTop (mkF m 163 #[.val (.int p0), .val (.int p1), .val (.int p2), .val (.int p3), .val (.int p4), .val (.int p5), .val (.ref b2), .val (.ref b16), .val (.int (Int32.ofNat a)), .val (.int (Int32.ofNat b)), .val (.int (0 : Int32)), .val (.int q63)] [(.int (0 : Int32)), (.int q63)])) _
              refine XS.icmpNo X63.here hx rfl (hb hby at_163) rfl (teq (own_is0 hq63 (own_notk rfl (own_n hr59 hq61)))).2 ?_
              show Steps p.tables e below (T63.setTop (mkF m 166 #[.val (.int p0), .val (.int p1), .val (.int p2), .val (.int p3), .val (.int p4), .val (.int p5), .val (.ref b2), .val (.ref b16), .val (.int (Int32.ofNat a)), .val (.int (Int32.ofNat b)), .val (.int (0 : Int32)), .val (.int q63)] [])) _
              refine XS.iconst X63.here hx rfl (hb hby at_166) ?_
              show Steps p.tables e below (T63.setTop (mkF m 167 #[.val (.int p0), .val (.int p1), .val (.int p2), .val (.int p3), .val (.int p4), .val (.int p5), .val (.ref b2), .val (.ref b16), .val (.int (Int32.ofNat a)), .val (.int (Int32.ofNat b)), .val (.int (0 : Int32)), .val (.int q63)] [(.int (1 : Int32))])) _
              refine XS.goto X63.here hx rfl (pc0 := 167) (pc' := 171) rfl (hb hby at_167) (by decide) (by decide) ?_
              exact Steps.refl _)
            obtain ⟨fs, hr, hrun, hended, hW, hsame⟩ := X63.leave (v := some (.int (1 : Int32))) (fun h => by rw [Bd.returns] at h; cases h)
            refine ⟨_, _, c65.trans (retOut X63 hx Bd.returns rfl (Or.inl ⟨rfl, by simp, _, rfl⟩) (hb hby at_171) hr), hrun, hended, _, _, rfl, ?_, ⟨_, rfl⟩, hW, hsame.mono (by decide) (by decide)⟩
            show Q0 Z  h0 n0 _ T63.heap _
            rw [eq63]
            exact ⟨rfl, N63⟩
          · have c66 : Steps p.tables e below S0 (T59.setTop (mkF m 154 #[.val (.int p0), .val (.int p1), .val (.int p2), .val (.int p3), .val (.int p4), .val (.int p5), .val (.ref b2), .val (.ref b16), .val (.int (Int32.ofNat a)), .val (.int (Int32.ofNat b)), .val (.int (1 : Int32)), .unset] [(.int (Int32.ofNat b)), (.int (Int32.ofNat a)), (.ref b16)])) := c60.trans (by
              show Steps p.tables e below (T59.setTop (mkF m 138 #[.val (.int p0), .val (.int p1), .val (.int p2), .val (.int p3), .val (.int p4), .val (.int p5), .val (.ref b2), .val (.ref b16), .val (.int (Int32.ofNat a)), .val (.int (Int32.ofNat b)), .unset, .unset] [(.int r59)])) _
              refine XS.ifNo X59.here hx rfl (hb hby at_138) rfl ((if0 _ _).trans (feq hq61).1) ?_
              show Steps p.tables e below (T59.setTop (mkF m 141 #[.val (.int p0), .val (.int p1), .val (.int p2), .val (.int p3), .val (.int p4), .val (.int p5), .val (.ref b2), .val (.ref b16), .val (.int (Int32.ofNat a)), .val (.int (Int32.ofNat b)), .unset, .unset] [])) _
              refine XS.iconst X59.here hx rfl (hb hby at_141) ?_
              show Steps p.tables e below (T59.setTop (mkF m 142 #[.val (.int p0), .val (.int p1), .val (.int p2), .val (.int p3), .val (.int p4), .val (.int p5), .val (.ref b2), .val (.ref b16), .val (.int (Int32.ofNat a)), .val (.int (Int32.ofNat b)), .unset, .unset] [(.int (1 : Int32))])) _
              refine XS.goto X59.here hx rfl (pc0 := 142) (pc' := 146) rfl (hb hby at_142) (by decide) (by decide) ?_
              show Steps p.tables e below (T59.setTop (mkF m 146 #[.val (.int p0), .val (.int p1), .val (.int p2), .val (.int p3), .val (.int p4), .val (.int p5), .val (.ref b2), .val (.ref b16), .val (.int (Int32.ofNat a)), .val (.int (Int32.ofNat b)), .unset, .unset] [(.int (1 : Int32))])) _
              refine XS.istore X59.here hx rfl (hb hby at_146) rfl (l' := #[.val (.int p0), .val (.int p1), .val (.int p2), .val (.int p3), .val (.int p4), .val (.int p5), .val (.ref b2), .val (.ref b16), .val (.int (Int32.ofNat a)), .val (.int (Int32.ofNat b)), .val (.int (1 : Int32)), .unset]) rfl ?_
              show Steps p.tables e below (T59.setTop (mkF m 148 #[.val (.int p0), .val (.int p1), .val (.int p2), .val (.int p3), .val (.int p4), .val (.int p5), .val (.ref b2), .val (.ref b16), .val (.int (Int32.ofNat a)), .val (.int (Int32.ofNat b)), .val (.int (1 : Int32)), .unset] [])) _
              refine XS.aload X59.here hx rfl (hb hby at_148) rfl rfl ?_
              show Steps p.tables e below (T59.setTop (mkF m 150 #[.val (.int p0), .val (.int p1), .val (.int p2), .val (.int p3), .val (.int p4), .val (.int p5), .val (.ref b2), .val (.ref b16), .val (.int (Int32.ofNat a)), .val (.int (Int32.ofNat b)), .val (.int (1 : Int32)), .unset] [(.ref b16)])) _
              refine XS.iload X59.here hx rfl (hb hby at_150) rfl ?_
              show Steps p.tables e below (T59.setTop (mkF m 152 #[.val (.int p0), .val (.int p1), .val (.int p2), .val (.int p3), .val (.int p4), .val (.int p5), .val (.ref b2), .val (.ref b16), .val (.int (Int32.ofNat a)), .val (.int (Int32.ofNat b)), .val (.int (1 : Int32)), .unset] [(.int (Int32.ofNat a)), (.ref b16)])) _
              refine XS.iload X59.here hx rfl (hb hby at_152) rfl ?_
              exact Steps.refl _)
            obtain ⟨_, _, ⟨T67, L67, kk67, nn67⟩, -, X67, ⟨Lc67, hQ67, l67, y67, z67⟩, st67⟩ := Jvm.LawKit.callS X59 hx (y := (⟨"com/example/libroute/libroute/pattern/RoutePattern", "isName", "(Ljava/lang/String;II)Z"⟩ : MethodName)) hown (mvT hZ (hw _ (List.mem_of_getElem? (i := 38) rfl))) (mvT hZ (hw _ (List.mem_of_getElem? (i := 39) rfl))) (mvT hZ (hw _ (List.mem_of_getElem? (i := 40) rfl))) (mvT hZ (hw _ (List.mem_of_getElem? (i := 41) rfl))) (by decide) (backOf (W := 0) (rmNm l Z a0 hw [] b16 t20 kb20 (4 : Int32) _ ([(nar .char ((p0 &&& (255 : Int32)).toUInt32.toUInt16.toUInt32.toInt32)), (nar .char ((p1 &&& (255 : Int32)).toUInt32.toUInt16.toUInt32.toInt32)), (nar .char ((p2 &&& (255 : Int32)).toUInt32.toUInt16.toUInt32.toInt32)), (nar .char ((p3 &&& (255 : Int32)).toUInt32.toUInt16.toUInt32.toInt32))] : List Int32) a b G1 G3 T20.heap n0 z20 Ex20 Fv20 Fc20 Va20 hcd20 (own_up _ hp19) (Nat.le_of_ble_eq_true rfl) (by omega) (by show b ≤ 4; omega) O2 P5 (((((((X00.ext E2).wr W5 (Nat.le_trans Z0 (Nat.le_trans K0.1 (Nat.le_of_eq g2.symm)))).wr W8 (Nat.le_trans Z0 (Nat.le_trans K0.1 (Nat.le_of_eq g2.symm)))).wr W11 (Nat.le_trans Z0 (Nat.le_trans K0.1 (Nat.le_of_eq g2.symm)))).wr W14 (Nat.le_trans Z0 (Nat.le_trans K0.1 (Nat.le_of_eq g2.symm)))).ext E16).keep Kq20 (allS (Nat.le_trans Z0 (Nat.le_trans K14.1 (Nat.le_of_eq g16.symm))) all0)) O4 rG3) hZ (hw _ (List.mem_of_getElem? (i := 41) rfl)) (hw _ (List.mem_of_getElem? (i := 40) rfl)) (by decide) (by decide)) (g := (mkF m 154 #[.val (.int p0), .val (.int p1), .val (.int p2), .val (.int p3), .val (.int p4), .val (.int p5), .val (.ref b2), .val (.ref b16), .val (.int (Int32.ofNat a)), .val (.int (Int32.ofNat b)), .val (.int (1 : Int32)), .unset] [(.int (Int32.ofNat b)), (.int (Int32.ofNat a)), (.ref b16)])) rfl (by rw [hml]; rfl) (argsL := [(.ref b16), (.int (Int32.ofNat a)), (.int (Int32.ofNat b))]) (rest := []) (lenOf pd_oLjavaslangsStringeIIcZ rfl) rfl (by show 2 * 0 + _ ≤ _; exact Nat.le_of_eq rfl) (hb hby at_154) (fun _ _ => ⟨rfl, eq59, (by decide : 3 + 0 ≤ _), (by decide : 12 + 0 ≤ _)⟩)
            dsimp only [Pt.U, Pt.locs, Pt.cells, Pt.slots] at X67 l67 y67 z67 st67 hQ67
            subst l67 y67 z67
            obtain ⟨q67, rfl, hq67, Nq67, eq67⟩ := hQ67
            have c68 : Steps p.tables e below S0 (T67.setTop (mkF m 157 #[.val (.int p0), .val (.int p1), .val (.int p2), .val (.int p3), .val (.int p4), .val (.int p5), .val (.ref b2), .val (.ref b16), .val (.int (Int32.ofNat a)), .val (.int (Int32.ofNat b)), .val (.int (1 : Int32)), .unset] [(.int q67)])) := c66.trans (st67 _ (Steps.refl _))
            have N67 := Fr.app N59 Nq67
            have c69 : Steps p.tables e below S0 (T67.setTop (mkF m 171 #[.val (.int p0), .val (.int p1), .val (.int p2), .val (.int p3), .val (.int p4), .val (.int p5), .val (.ref b2), .val (.ref b16), .val (.int (Int32.ofNat a)), .val (.int (Int32.ofNat b)), .val (.int (1 : Int32)), .val (.int q67)] [(.int (1 : Int32))])) := c68.trans (by
              show Steps p.tables e below (T67.setTop (mkF m 157 #[.val (.int p0), .val (.int p1), .val (.int p2), .val (.int p3), .val (.int p4), .val (.int p5), .val (.ref b2), .val (.ref b16), .val (.int (Int32.ofNat a)), .val (.int (Int32.ofNat b)), .val (.int (1 : Int32)), .unset] [(.int q67)])) _
              refine XS.istore X67.here hx rfl (hb hby at_157) rfl (l' := #[.val (.int p0), .val (.int p1), .val (.int p2), .val (.int p3), .val (.int p4), .val (.int p5), .val (.ref b2), .val (.ref b16), .val (.int (Int32.ofNat a)), .val (.int (Int32.ofNat b)), .val (.int (1 : Int32)), .val (.int q67)]) rfl ?_
              show Steps p.tables e below (T67.setTop (mkF m 159 #[.val (.int p0), .val (.int p1), .val (.int p2), .val (.int p3), .val (.int p4), .val (.int p5), .val (.ref b2), .val (.ref b16), .val (.int (Int32.ofNat a)), .val (.int (Int32.ofNat b)), .val (.int (1 : Int32)), .val (.int q67)] [])) _
              refine XS.iload X67.here hx rfl (hb hby at_159) rfl ?_
              show Steps p.tables e below (T67.setTop (mkF m 161 #[.val (.int p0), .val (.int p1), .val (.int p2), .val (.int p3), .val (.int p4), .val (.int p5), .val (.ref b2), .val (.ref b16), .val (.int (Int32.ofNat a)), .val (.int (Int32.ofNat b)), .val (.int (1 : Int32)), .val (.int q67)] [(.int q67)])) _
              refine XS.iload X67.here hx rfl (hb hby at_161) rfl ?_
              show Steps p.tables e below (T67.setTop (mkF m 163 #[.val (.int p0), .val (.int p1), .val (.int p2), .val (.int p3), .val (.int p4), .val (.int p5), .val (.ref b2), .val (.ref b16), .val (.int (Int32.ofNat a)), .val (.int (Int32.ofNat b)), .val (.int (1 : Int32)), .val (.int q67)] [(.int (1 : Int32)), (.int q67)])) _
              refine XS.icmpNo X67.here hx rfl (hb hby at_163) rfl (teq (own_is1 hq67 (own_four _ _ _ _ ha hb2 ((own_ofN_lt (by omega) (by omega)).mp hq25) (own_y hr29 hq31) (own_y hr39 hq41) (own_y hr49 hq51) (own_y hr59 hq61)))).2 ?_
              show Steps p.tables e below (T67.setTop (mkF m 166 #[.val (.int p0), .val (.int p1), .val (.int p2), .val (.int p3), .val (.int p4), .val (.int p5), .val (.ref b2), .val (.ref b16), .val (.int (Int32.ofNat a)), .val (.int (Int32.ofNat b)), .val (.int (1 : Int32)), .val (.int q67)] [])) _
              refine XS.iconst X67.here hx rfl (hb hby at_166) ?_
              show Steps p.tables e below (T67.setTop (mkF m 167 #[.val (.int p0), .val (.int p1), .val (.int p2), .val (.int p3), .val (.int p4), .val (.int p5), .val (.ref b2), .val (.ref b16), .val (.int (Int32.ofNat a)), .val (.int (Int32.ofNat b)), .val (.int (1 : Int32)), .val (.int q67)] [(.int (1 : Int32))])) _
              refine XS.goto X67.here hx rfl (pc0 := 167) (pc' := 171) rfl (hb hby at_167) (by decide) (by decide) ?_
              exact Steps.refl _)
            obtain ⟨fs, hr, hrun, hended, hW, hsame⟩ := X67.leave (v := some (.int (1 : Int32))) (fun h => by rw [Bd.returns] at h; cases h)
            refine ⟨_, _, c69.trans (retOut X67 hx Bd.returns rfl (Or.inl ⟨rfl, by simp, _, rfl⟩) (hb hby at_171) hr), hrun, hended, _, _, rfl, ?_, ⟨_, rfl⟩, hW, hsame.mono (by decide) (by decide)⟩
            show Q0 Z  h0 n0 _ T67.heap _
            rw [eq67]
            exact ⟨rfl, N67⟩
  · have c70 : Steps p.tables e below S0 (T20.setTop (mkF m 154 #[.val (.int p0), .val (.int p1), .val (.int p2), .val (.int p3), .val (.int p4), .val (.int p5), .val (.ref b2), .val (.ref b16), .val (.int (Int32.ofNat a)), .val (.int (Int32.ofNat b)), .val (.int (0 : Int32)), .unset] [(.int (Int32.ofNat b)), (.int (Int32.ofNat a)), (.ref b16)])) := c24.trans (by
      show Steps p.tables e below (T20.setTop (mkF m 78 #[.val (.int p0), .val (.int p1), .val (.int p2), .val (.int p3), .val (.int p4), .val (.int p5), .val (.ref b2), .val (.ref b16), .val (.int (Int32.ofNat a)), .val (.int (Int32.ofNat b)), .unset, .unset] [(.int (Int32.ofNat b)), (.int (Int32.ofNat a))])) _
      refine XS.icmpYes X20.here hx rfl (pc0 := 78) (pc' := 145) rfl (hb hby at_78) rfl (flt hq25).2.1 (by decide) (by decide) ?_
      show Steps p.tables e below (T20.setTop (mkF m 145 #[.val (.int p0), .val (.int p1), .val (.int p2), .val (.int p3), .val (.int p4), .val (.int p5), .val (.ref b2), .val (.ref b16), .val (.int (Int32.ofNat a)), .val (.int (Int32.ofNat b)), .unset, .unset] [])) _
      refine XS.iconst X20.here hx rfl (hb hby at_145) ?_
      show Steps p.tables e below (T20.setTop (mkF m 146 #[.val (.int p0), .val (.int p1), .val (.int p2), .val (.int p3), .val (.int p4), .val (.int p5), .val (.ref b2), .val (.ref b16), .val (.int (Int32.ofNat a)), .val (.int (Int32.ofNat b)), .unset, .unset] [(.int (0 : Int32))])) _
      refine XS.istore X20.here hx rfl (hb hby at_146) rfl (l' := #[.val (.int p0), .val (.int p1), .val (.int p2), .val (.int p3), .val (.int p4), .val (.int p5), .val (.ref b2), .val (.ref b16), .val (.int (Int32.ofNat a)), .val (.int (Int32.ofNat b)), .val (.int (0 : Int32)), .unset]) rfl ?_
      show Steps p.tables e below (T20.setTop (mkF m 148 #[.val (.int p0), .val (.int p1), .val (.int p2), .val (.int p3), .val (.int p4), .val (.int p5), .val (.ref b2), .val (.ref b16), .val (.int (Int32.ofNat a)), .val (.int (Int32.ofNat b)), .val (.int (0 : Int32)), .unset] [])) _
      refine XS.aload X20.here hx rfl (hb hby at_148) rfl rfl ?_
      show Steps p.tables e below (T20.setTop (mkF m 150 #[.val (.int p0), .val (.int p1), .val (.int p2), .val (.int p3), .val (.int p4), .val (.int p5), .val (.ref b2), .val (.ref b16), .val (.int (Int32.ofNat a)), .val (.int (Int32.ofNat b)), .val (.int (0 : Int32)), .unset] [(.ref b16)])) _
      refine XS.iload X20.here hx rfl (hb hby at_150) rfl ?_
      show Steps p.tables e below (T20.setTop (mkF m 152 #[.val (.int p0), .val (.int p1), .val (.int p2), .val (.int p3), .val (.int p4), .val (.int p5), .val (.ref b2), .val (.ref b16), .val (.int (Int32.ofNat a)), .val (.int (Int32.ofNat b)), .val (.int (0 : Int32)), .unset] [(.int (Int32.ofNat a)), (.ref b16)])) _
      refine XS.iload X20.here hx rfl (hb hby at_152) rfl ?_
      exact Steps.refl _)
    obtain ⟨_, _, ⟨T71, L71, kk71, nn71⟩, -, X71, ⟨Lc71, hQ71, l71, y71, z71⟩, st71⟩ := Jvm.LawKit.callS X20 hx (y := (⟨"com/example/libroute/libroute/pattern/RoutePattern", "isName", "(Ljava/lang/String;II)Z"⟩ : MethodName)) hown (mvT hZ (hw _ (List.mem_of_getElem? (i := 38) rfl))) (mvT hZ (hw _ (List.mem_of_getElem? (i := 39) rfl))) (mvT hZ (hw _ (List.mem_of_getElem? (i := 40) rfl))) (mvT hZ (hw _ (List.mem_of_getElem? (i := 41) rfl))) (by decide) (backOf (W := 0) (rmNm l Z a0 hw [] b16 t20 kb20 (4 : Int32) _ ([(nar .char ((p0 &&& (255 : Int32)).toUInt32.toUInt16.toUInt32.toInt32)), (nar .char ((p1 &&& (255 : Int32)).toUInt32.toUInt16.toUInt32.toInt32)), (nar .char ((p2 &&& (255 : Int32)).toUInt32.toUInt16.toUInt32.toInt32)), (nar .char ((p3 &&& (255 : Int32)).toUInt32.toUInt16.toUInt32.toInt32))] : List Int32) a b G1 G3 T20.heap n0 z20 Ex20 Fv20 Fc20 Va20 hcd20 (own_up _ hp19) (Nat.le_of_ble_eq_true rfl) (by omega) (by show b ≤ 4; omega) O2 P5 (((((((X00.ext E2).wr W5 (Nat.le_trans Z0 (Nat.le_trans K0.1 (Nat.le_of_eq g2.symm)))).wr W8 (Nat.le_trans Z0 (Nat.le_trans K0.1 (Nat.le_of_eq g2.symm)))).wr W11 (Nat.le_trans Z0 (Nat.le_trans K0.1 (Nat.le_of_eq g2.symm)))).wr W14 (Nat.le_trans Z0 (Nat.le_trans K0.1 (Nat.le_of_eq g2.symm)))).ext E16).keep Kq20 (allS (Nat.le_trans Z0 (Nat.le_trans K14.1 (Nat.le_of_eq g16.symm))) all0)) O4 rG3) hZ (hw _ (List.mem_of_getElem? (i := 41) rfl)) (hw _ (List.mem_of_getElem? (i := 40) rfl)) (by decide) (by decide)) (g := (mkF m 154 #[.val (.int p0), .val (.int p1), .val (.int p2), .val (.int p3), .val (.int p4), .val (.int p5), .val (.ref b2), .val (.ref b16), .val (.int (Int32.ofNat a)), .val (.int (Int32.ofNat b)), .val (.int (0 : Int32)), .unset] [(.int (Int32.ofNat b)), (.int (Int32.ofNat a)), (.ref b16)])) rfl (by rw [hml]; rfl) (argsL := [(.ref b16), (.int (Int32.ofNat a)), (.int (Int32.ofNat b))]) (rest := []) (lenOf pd_oLjavaslangsStringeIIcZ rfl) rfl (by show 2 * 0 + _ ≤ _; exact Nat.le_of_eq rfl) (hb hby at_154) (fun _ _ => ⟨rfl, rfl, (by decide : 3 + 0 ≤ _), (by decide : 12 + 0 ≤ _)⟩)
    dsimp only [Pt.U, Pt.locs, Pt.cells, Pt.slots] at X71 l71 y71 z71 st71 hQ71
    subst l71 y71 z71
    obtain ⟨q71, rfl, hq71, Nq71, eq71⟩ := hQ71
    have c72 : Steps p.tables e below S0 (T71.setTop (mkF m 157 #[.val (.int p0), .val (.int p1), .val (.int p2), .val (.int p3), .val (.int p4), .val (.int p5), .val (.ref b2), .val (.ref b16), .val (.int (Int32.ofNat a)), .val (.int (Int32.ofNat b)), .val (.int (0 : Int32)), .unset] [(.int q71)])) := c70.trans (st71 _ (Steps.refl _))
    have N71 := Fr.app N20 Nq71
    have c73 : Steps p.tables e below S0 (T71.setTop (mkF m 171 #[.val (.int p0), .val (.int p1), .val (.int p2), .val (.int p3), .val (.int p4), .val (.int p5), .val (.ref b2), .val (.ref b16), .val (.int (Int32.ofNat a)), .val (.int (Int32.ofNat b)), .val (.int (0 : Int32)), .val (.int q71)] [(.int (1 : Int32))])) := c72.trans (by
      show Steps p.tables e below (T71.setTop (mkF m 157 #[.val (.int p0), .val (.int p1), .val (.int p2), .val (.int p3), .val (.int p4), .val (.int p5), .val (.ref b2), .val (.ref b16), .val (.int (Int32.ofNat a)), .val (.int (Int32.ofNat b)), .val (.int (0 : Int32)), .unset] [(.int q71)])) _
      refine XS.istore X71.here hx rfl (hb hby at_157) rfl (l' := #[.val (.int p0), .val (.int p1), .val (.int p2), .val (.int p3), .val (.int p4), .val (.int p5), .val (.ref b2), .val (.ref b16), .val (.int (Int32.ofNat a)), .val (.int (Int32.ofNat b)), .val (.int (0 : Int32)), .val (.int q71)]) rfl ?_
      show Steps p.tables e below (T71.setTop (mkF m 159 #[.val (.int p0), .val (.int p1), .val (.int p2), .val (.int p3), .val (.int p4), .val (.int p5), .val (.ref b2), .val (.ref b16), .val (.int (Int32.ofNat a)), .val (.int (Int32.ofNat b)), .val (.int (0 : Int32)), .val (.int q71)] [])) _
      refine XS.iload X71.here hx rfl (hb hby at_159) rfl ?_
      show Steps p.tables e below (T71.setTop (mkF m 161 #[.val (.int p0), .val (.int p1), .val (.int p2), .val (.int p3), .val (.int p4), .val (.int p5), .val (.ref b2), .val (.ref b16), .val (.int (Int32.ofNat a)), .val (.int (Int32.ofNat b)), .val (.int (0 : Int32)), .val (.int q71)] [(.int q71)])) _
      refine XS.iload X71.here hx rfl (hb hby at_161) rfl ?_
      show Steps p.tables e below (T71.setTop (mkF m 163 #[.val (.int p0), .val (.int p1), .val (.int p2), .val (.int p3), .val (.int p4), .val (.int p5), .val (.ref b2), .val (.ref b16), .val (.int (Int32.ofNat a)), .val (.int (Int32.ofNat b)), .val (.int (0 : Int32)), .val (.int q71)] [(.int (0 : Int32)), (.int q71)])) _
      refine XS.icmpNo X71.here hx rfl (hb hby at_163) rfl (teq (own_is0 hq71 (fun q => hq25 ((own_ofN_lt (by omega) (by omega)).mpr q.1)))).2 ?_
      show Steps p.tables e below (T71.setTop (mkF m 166 #[.val (.int p0), .val (.int p1), .val (.int p2), .val (.int p3), .val (.int p4), .val (.int p5), .val (.ref b2), .val (.ref b16), .val (.int (Int32.ofNat a)), .val (.int (Int32.ofNat b)), .val (.int (0 : Int32)), .val (.int q71)] [])) _
      refine XS.iconst X71.here hx rfl (hb hby at_166) ?_
      show Steps p.tables e below (T71.setTop (mkF m 167 #[.val (.int p0), .val (.int p1), .val (.int p2), .val (.int p3), .val (.int p4), .val (.int p5), .val (.ref b2), .val (.ref b16), .val (.int (Int32.ofNat a)), .val (.int (Int32.ofNat b)), .val (.int (0 : Int32)), .val (.int q71)] [(.int (1 : Int32))])) _
      refine XS.goto X71.here hx rfl (pc0 := 167) (pc' := 171) rfl (hb hby at_167) (by decide) (by decide) ?_
      exact Steps.refl _)
    obtain ⟨fs, hr, hrun, hended, hW, hsame⟩ := X71.leave (v := some (.int (1 : Int32))) (fun h => by rw [Bd.returns] at h; cases h)
    refine ⟨_, _, c73.trans (retOut X71 hx Bd.returns rfl (Or.inl ⟨rfl, by simp, _, rfl⟩) (hb hby at_171) hr), hrun, hended, _, _, rfl, ?_, ⟨_, rfl⟩, hW, hsame.mono (by decide) (by decide)⟩
    show Q0 Z  h0 n0 _ T71.heap _
    rw [eq71]
    exact ⟨rfl, N71⟩

set_option maxRecDepth 65536 in
set_option maxHeartbeats 40000000 in
theorem comes_1 {Post : Tables → Env → Array Value → State → Outcome → State → Prop} (hpost : ∀ tb e args s v u, (limb_1_1.after args s (.returned v) u = true ∧ limb_1_2.after args s (.returned v) u = true ∧ True) → FrameEnd s (.returned v) u (Jvm.fieldLocs frame_1_writes args s ++ Jvm.arrayLocs frame_1_arrays args s ++ Jvm.staticLocs frame_1_statics s) 16 128 → Post tb e args s (.returned v) u) :
    ArmFor flags0 classFile x code maxLocals ret World_1 tables_1 room_1 Calls_1 rest_1 Pre_1 Post := by
  intro l hfl _ _ p e ha hc hk s m args below hf hA hF happ hP
  obtain ⟨hcalls, hrest, hpre⟩ := hP
  obtain ⟨-, -, -, hnamed, -, -, -, hat⟩ := (Spec.applies_iff hf).mp happ
  obtain ⟨hg, hn⟩ := and_e (Cond.before_iff.mp (show (Jvm.Cond.and given_1 narrow_1).before args s = true from hpre))
  obtain ⟨hcnt, hr1⟩ := and_e hg
  obtain ⟨ga0, hr2⟩ := and_e hr1
  obtain ⟨ga1, hr3⟩ := and_e hr2
  obtain ⟨ga2, hr4⟩ := and_e hr3
  obtain ⟨ga3, hr5⟩ := and_e hr4
  obtain ⟨ga4, hr6⟩ := and_e hr5
  obtain ⟨w0, w1, w2, w3, w4, w5, rfl⟩ : ∃ w0 w1 w2 w3 w4 w5 : Value, args = #[w0, w1, w2, w3, w4, w5] := by
    have hs : args.size = 6 := by simpa [Cond.value, given_1] using hcnt
    obtain ⟨L⟩ := args
    match L, hs with
    | [w0, w1, w2, w3, w4, w5], _ => exact ⟨w0, w1, w2, w3, w4, w5, rfl⟩
  have hw := fun d (hd : d ∈ tables_1) => atoms_spec (ws := Jvm.Cond.code x code maxLocals ret :: tables_1) hat d (List.mem_cons_of_mem _ hd)
  have hfit : Fit s := fun {y c} hc i hi => by
    obtain ⟨ha, rfl⟩ := Array.getElem?_eq_some_iff.mp hc
    have q := List.all_eq_true.mp ((Array.all_eq_true_iff_forall_mem.mp hF) _ (Array.getElem_mem ha)) i (List.mem_range.mpr hi)
    simpa [Array.getElem?_eq_getElem hi] using q
  obtain ⟨hsets, hown0⟩ := atoms_of _ (rest_1_c_eq ▸ (show rest_1_c.before _ s = true from hrest))
  obtain ⟨i0, ei0⟩ := is_v ga0
  obtain rfl : w0 = (.int i0) := Option.some.inj ei0
  obtain ⟨i1, ei1⟩ := is_v ga1
  obtain rfl : w1 = (.int i1) := Option.some.inj ei1
  obtain ⟨i2, ei2⟩ := is_v ga2
  obtain rfl : w2 = (.int i2) := Option.some.inj ei2
  obtain ⟨i3, ei3⟩ := is_v ga3
  obtain rfl : w3 = (.int i3) := Option.some.inj ei3
  obtain ⟨i4, ei4⟩ := is_v ga4
  obtain rfl : w4 = (.int i4) := Option.some.inj ei4
  obtain ⟨i5, ei5⟩ := is_v hr6
  obtain rfl : w5 = (.int i5) := Option.some.inj ei5
  have n3 := not_v (Cond.before_iff.mp (hsets _ (List.mem_of_getElem? (i := 2) rfl)))
  obtain ⟨G1, eG1⟩ := is_v (Cond.before_iff.mp (hsets _ (List.mem_of_getElem? (i := 1) rfl)))
  have O2 : Sta s s.heap "java/lang/String" "COMPACT_STRINGS" "Z" (.int G1) := Sta.start eG1 (Or.inl (hsets _ (List.mem_of_getElem? (i := 0) rfl)))
  have P5 : ¬ (G1 = (0 : Int32)) := gotF (Cond.eq_ints eG1 (Term.int_eval (0))) n3
  obtain ⟨G3, eG3, rG3⟩ := isR_v (Cond.before_iff.mp (hsets _ (List.mem_of_getElem? (i := 8) rfl)))
  have O4 : Sta s s.heap "jdk/internal/util/Preconditions" "SIOOBE_FORMATTER" "Ljava/util/function/BiFunction;" G3 := Sta.start eG3 (Or.inl (hsets _ (List.mem_of_getElem? (i := 7) rfl)))
  obtain ⟨n, o, h1, h2, h3, _, L, rfl, ⟨rfl, N⟩, hq⟩ := rm0 l s _ hw tables_1 i0 i1 i2 i3 i4 i5 G1 G3 s.heap s.heap.size (Nat.le_refl _) O2 P5 (Old.start s) O4 rG3 p e ha hc hk s m _ below hf ((Spec.applies_iff_loose hf).mp happ).1 ⟨rfl, State.Warmed39.refl s, rfl⟩ trivial
  refine ⟨n, _, h1, h2, h3, hpost _ _ _ _ _ _ ⟨Cond.after_iff.mpr rfl, Cond.after_iff.mpr (eq_i res_at (Term.int_eval (1)) rfl), trivial⟩ ⟨hq.1, hq.2.1, (hq.2.2.sift fun y hy => Or.inr (N y hy)).mono (by decide) (by decide)⟩⟩
theorem main_1_1 : Claimed_1_1 := comes_1 fun _ _ _ _ _ _ h hF => ⟨h.1, hF⟩
theorem main_1_2 : Claimed_1_2 := comes_1 fun _ _ _ _ _ _ h hF => ⟨h.2.1, hF⟩
end Jvm.Pilot.@@N@@
namespace Jvm.Pilot.@@N@@
open Jvm Jvm.ClassFile Sem Op Lib Jvm.Free Jvm.Stand Jvm.Pilot.@@N@@.Jvm.D
/-! MADE BY PROGRAM (witnessworld.py) out of the Statement's table words and the real class files: 20 classes; the members and pool entries that the words name. The judged class is class 1, her method 3. -/
namespace start1
open Jvm.ClassFile
def u (s : String) : CpInfo := .utf8 (stringToUtf16 s)
/-- a pool by its gaps: so many unusable entries, then the entry; so many at the end -/
def gap : Nat → List CpInfo → List CpInfo
  | 0, r => r
  | n + 1, r => .unusable :: gap n r
def poolList (es : List (Nat × CpInfo)) (last : Nat) : List CpInfo := es.foldr (fun e r => gap e.1 (e.2 :: r)) (gap last [])
def pool (es : List (Nat × CpInfo)) (last : Nat) : Array CpInfo := ⟨poolList es last⟩
def fileOf (pool : Array CpInfo) (this : Nat) (attrs : Array Attribute := #[]) (ms : Array MethodInfo := #[]) (fl : Nat := 33) (sup : Nat := 0) (ifs : Array Nat := #[]) (fds : Array FieldInfo := #[]) : ClassFile where
  minorVersion := 0
  majorVersion := 65
  constantPool := pool
  accessFlags := fl
  thisClass := this
  superClass := sup
  interfaces := ifs
  fields := fds
  methods := ms
  attributes := attrs
def plain (name : String) (sup : Option ClassId) : Class where
  name := name
  kind := .ordinary
  loader := none
  accessFlags := 33
  super := sup
  interfaces := #[]
  cf := none
  fields := #[]
  methods := #[]
  instanceTypes := #[]
  staticTypes := #[]
  resolved := #[]
  callSites := []
  init := .initialized
  statics := none
  mirror := none

def pool0 : Array CpInfo := pool [(5, u "<init>"), (0, u "()V"), (1, .class_ 10), (1, u "java/lang/Object")] 113

def k0c0 : Code := { maxStack := 0, maxLocals := 1, code := object_method_1_code, exceptionTable := #[], attributes := #[] }
def k0m0 : Method := { name := "<init>", desc := "()V", sig := { parameters := [], returnType := none }, accessFlags := 1, code := some k0c0 }
/-- java/lang/Object -/
def k0 : Class := { plain "java/lang/Object" none with
  accessFlags := 33
  interfaces := #[]
  cf := some (fileOf pool0 8 #[] #[{ accessFlags := 1, nameIndex := 5, descriptorIndex := 6, attributes := #[] }] 33 0 #[] #[])
  fields := #[]
  methods := #[k0m0]
  instanceTypes := #[]
  staticTypes := #[]
  resolved := Array.replicate 124 none
  statics := none }

def pool1 : Array CpInfo := pool [(2, .class_ 4), (1, u "java/lang/Object"), (0, u "<init>"), (0, u "()V"), (0, .methodref 8 9), (0, .class_ 10), (0, .nameAndType 11 12), (0, u "com/example/libroute/libroute/pattern/RoutePatternIsNamePinLaw"), (0, u "ok"), (0, u "(CZ)Z"), (0, .class_ 14), (0, u "java/lang/String"), (0, .methodref 13 16), (0, .nameAndType 5 17), (0, u "([C)V"), (0, .integer 2147483647), (0, .methodref 8 20), (0, .nameAndType 21 22), (0, u "inside"), (0, u "(IIIC)Z"), (0, .methodref 24 25), (0, .class_ 26), (0, .nameAndType 27 28), (0, u "com/example/libroute/libroute/pattern/RoutePattern"), (0, u "isName"), (0, u "(Ljava/lang/String;II)Z"), (3, u "law"), (0, u "(IIIIII)Z")] 4

def k1m0 : Method := { name := "<init>", desc := "()V", sig := { parameters := [], returnType := none }, accessFlags := 2, code := none }
def k1c1 : Code := { maxStack := 2, maxLocals := 4, code := method_2_code, exceptionTable := #[], attributes := #[] }
def k1m1 : Method := { name := "ok", desc := "(CZ)Z", sig := { parameters := [.char, .boolean], returnType := some .boolean }, accessFlags := 10, code := some k1c1 }
def k1c2 : Code := { maxStack := 3, maxLocals := 4, code := method_3_code, exceptionTable := #[], attributes := #[] }
def k1m2 : Method := { name := "inside", desc := "(IIIC)Z", sig := { parameters := [.int, .int, .int, .char], returnType := some .boolean }, accessFlags := 10, code := some k1c2 }
def k1c3 : Code := { maxStack := 5, maxLocals := 12, code := code, exceptionTable := #[], attributes := #[] }
def k1m3 : Method := { name := "law", desc := "(IIIIII)Z", sig := { parameters := [.int, .int, .int, .int, .int, .int], returnType := some .boolean }, accessFlags := 9, code := some k1c3 }
/-- com/example/libroute/libroute/pattern/RoutePatternIsNamePinLaw -/
def k1 : Class := { plain "com/example/libroute/libroute/pattern/RoutePatternIsNamePinLaw" (some 0) with
  accessFlags := 49
  interfaces := #[]
  cf := some (fileOf pool1 8 #[] #[{ accessFlags := 2, nameIndex := 5, descriptorIndex := 6, attributes := #[] }, { accessFlags := 10, nameIndex := 11, descriptorIndex := 12, attributes := #[] }, { accessFlags := 10, nameIndex := 21, descriptorIndex := 22, attributes := #[] }, { accessFlags := 9, nameIndex := 32, descriptorIndex := 33, attributes := #[] }] 49 2 #[] #[])
  fields := #[]
  methods := #[k1m0, k1m1, k1m2, k1m3]
  instanceTypes := #[]
  staticTypes := #[]
  resolved := Array.replicate 38 none
  statics := none }

def pool2 : Array CpInfo := pool [(1, .class_ 2), (0, u "java/io/Serializable"), (0, .class_ 4), (0, u "java/lang/Object")] 2

/-- java/io/Serializable -/
def k2 : Class := { plain "java/io/Serializable" (some 0) with
  accessFlags := 1537
  interfaces := #[]
  cf := some (fileOf pool2 1 #[] #[] 1537 3 #[] #[])
  fields := #[]
  methods := #[]
  instanceTypes := #[]
  staticTypes := #[]
  resolved := Array.replicate 7 none
  statics := none }

def pool3 : Array CpInfo := pool [(1, .class_ 2), (0, u "java/lang/Comparable"), (0, .class_ 4), (0, u "java/lang/Object")] 7

/-- java/lang/Comparable -/
def k3 : Class := { plain "java/lang/Comparable" (some 0) with
  accessFlags := 1537
  interfaces := #[]
  cf := some (fileOf pool3 1 #[] #[] 1537 3 #[] #[])
  fields := #[]
  methods := #[]
  instanceTypes := #[]
  staticTypes := #[]
  resolved := Array.replicate 12 none
  statics := none }

def pool4 : Array CpInfo := pool [(2, .class_ 4), (1, u "java/lang/CharSequence"), (42, .class_ 48), (0, u "java/lang/CharSequence$1CodePointIterator"), (10, .class_ 60), (0, u "java/lang/CharSequence$1CharIterator"), (5, .class_ 67), (0, u "java/lang/Object")] 63

/-- java/lang/CharSequence -/
def k4 : Class := { plain "java/lang/CharSequence" (some 0) with
  accessFlags := 1537
  interfaces := #[]
  cf := some (fileOf pool4 2 #[.nestMembers #[47, 59]] #[] 1537 66 #[] #[])
  fields := #[]
  methods := #[]
  instanceTypes := #[]
  staticTypes := #[]
  resolved := Array.replicate 131 none
  statics := none }

def pool5 : Array CpInfo := pool [(1, .class_ 2), (0, u "java/lang/constant/Constable"), (0, .class_ 4), (0, u "java/lang/Object")] 6

/-- java/lang/constant/Constable -/
def k5 : Class := { plain "java/lang/constant/Constable" (some 0) with
  accessFlags := 1537
  interfaces := #[]
  cf := some (fileOf pool5 1 #[] #[] 1537 3 #[] #[])
  fields := #[]
  methods := #[]
  instanceTypes := #[]
  staticTypes := #[]
  resolved := Array.replicate 11 none
  statics := none }

def pool6 : Array CpInfo := pool [(1, .class_ 2), (0, u "java/lang/constant/ConstantDesc"), (0, .class_ 4), (0, u "java/lang/Object")] 32

/-- java/lang/constant/ConstantDesc -/
def k6 : Class := { plain "java/lang/constant/ConstantDesc" (some 0) with
  accessFlags := 1537
  interfaces := #[]
  cf := some (fileOf pool6 1 #[] #[] 1537 3 #[] #[])
  fields := #[]
  methods := #[]
  instanceTypes := #[]
  staticTypes := #[]
  resolved := Array.replicate 37 none
  statics := none }

def pool7 : Array CpInfo := pool [(1, .methodref 2 3), (0, .class_ 4), (0, .nameAndType 5 6), (0, u "java/lang/Object"), (0, u "<init>"), (0, u "()V"), (2, .fieldref 10 11), (0, .class_ 12), (0, .nameAndType 13 14), (0, u "java/lang/String"), (0, u "value"), (0, u "[B"), (0, .fieldref 10 16), (0, .nameAndType 17 18), (0, u "coder"), (0, u "B"), (2, u "hash"), (0, u "I"), (2, u "hashIsZero"), (0, u "Z"), (0, .methodref 10 28), (0, .nameAndType 5 29), (0, u "([CIILjava/lang/Void;)V"), (8, .fieldref 10 39), (0, .nameAndType 40 26), (0, u "COMPACT_STRINGS"), (1, .class_ 44), (1, u "java/lang/StringUTF16"), (0, u "compress"), (1, .methodref 42 48), (0, .nameAndType 49 50), (0, u "coderFromArrayLen"), (0, u "([BI)B"), (56, .class_ 109), (1, u "java/lang/StringLatin1"), (32, u "()Z"), (34, .methodref 42 178), (0, .nameAndType 45 179), (0, u "([CII)[B"), (183, u "([BI)C"), (27, u "(II)V"), (35, u "(I)C"), (64, .methodref 10 493), (0, .nameAndType 494 142), (0, u "isLatin1"), (0, .methodref 107 496), (0, .nameAndType 497 363), (0, u "charAt"), (3, u "checkIndex"), (73, .class_ 576), (0, u "java/lang/CharSequence"), (22, u "CASE_INSENSITIVE_ORDER"), (0, u "Ljava/util/Comparator;"), (409, u "([C)V"), (42, .fieldref 1054 1055), (0, .class_ 1056), (0, .nameAndType 1057 1058), (0, u "jdk/internal/util/Preconditions"), (0, u "SIOOBE_FORMATTER"), (0, u "Ljava/util/function/BiFunction;"), (0, .methodref 1054 1060), (0, .nameAndType 501 1061), (0, u "(IILjava/util/function/BiFunction;)I"), (39, u "serialPersistentFields"), (0, u "[Ljava/io/ObjectStreamField;"), (0, .class_ 1104), (0, u "java/lang/String$CaseInsensitiveComparator"), (1, .class_ 1107), (0, u "java/io/Serializable"), (0, .class_ 1109), (0, u "java/lang/Comparable"), (0, .class_ 1111), (0, u "java/lang/constant/Constable"), (0, .class_ 1113), (0, u "java/lang/constant/ConstantDesc"), (2, u "serialVersionUID"), (0, u "J"), (3, u "REPL"), (0, u "C"), (2, u "LATIN1"), (1, u "UTF16")] 323

def k7m0 : Method := { name := "<init>", desc := "()V", sig := { parameters := [], returnType := none }, accessFlags := 1, code := none }
def k7c1 : Code := { maxStack := 5, maxLocals := 2, code := jdk_42_method_3_code, exceptionTable := #[], attributes := #[] }
def k7m1 : Method := { name := "<init>", desc := "([C)V", sig := { parameters := [(.array .char)], returnType := none }, accessFlags := 1, code := some k7c1 }
def k7c2 : Code := { maxStack := 2, maxLocals := 2, code := jdk_42_method_56_code, exceptionTable := #[], attributes := #[] }
def k7m2 : Method := { name := "charAt", desc := "(I)C", sig := { parameters := [.int], returnType := some .char }, accessFlags := 1, code := some k7c2 }
def k7c3 : Code := { maxStack := 4, maxLocals := 6, code := jdk_42_method_149_code, exceptionTable := #[], attributes := #[] }
def k7m3 : Method := { name := "<init>", desc := "([CIILjava/lang/Void;)V", sig := { parameters := [(.array .char), .int, .int, (.object "java/lang/Void")], returnType := none }, accessFlags := 2, code := some k7c3 }
def k7c4 : Code := { maxStack := 1, maxLocals := 1, code := jdk_42_method_154_code, exceptionTable := #[], attributes := #[] }
def k7m4 : Method := { name := "isLatin1", desc := "()Z", sig := { parameters := [], returnType := some .boolean }, accessFlags := 0, code := some k7c4 }
def k7c5 : Code := { maxStack := 3, maxLocals := 2, code := jdk_42_method_155_code, exceptionTable := #[], attributes := #[] }
def k7m5 : Method := { name := "checkIndex", desc := "(II)V", sig := { parameters := [.int, .int], returnType := none }, accessFlags := 8, code := some k7c5 }
/-- java/lang/String -/
def k7 : Class := { plain "java/lang/String" (some 0) with
  accessFlags := 49
  interfaces := #[2, 3, 4, 5, 6]
  cf := some (fileOf pool7 10 #[.nestMembers #[1103]] #[{ accessFlags := 1, nameIndex := 5, descriptorIndex := 6, attributes := #[] }, { accessFlags := 1, nameIndex := 5, descriptorIndex := 1010, attributes := #[] }, { accessFlags := 1, nameIndex := 497, descriptorIndex := 427, attributes := #[] }, { accessFlags := 2, nameIndex := 5, descriptorIndex := 29, attributes := #[] }, { accessFlags := 0, nameIndex := 494, descriptorIndex := 142, attributes := #[] }, { accessFlags := 8, nameIndex := 501, descriptorIndex := 391, attributes := #[] }] 49 2 #[1106, 1108, 575, 1110, 1112] #[{ accessFlags := 18, nameIndex := 13, descriptorIndex := 14, attributes := #[] }, { accessFlags := 18, nameIndex := 17, descriptorIndex := 18, attributes := #[] }, { accessFlags := 2, nameIndex := 21, descriptorIndex := 22, attributes := #[] }, { accessFlags := 2, nameIndex := 25, descriptorIndex := 26, attributes := #[] }, { accessFlags := 26, nameIndex := 1116, descriptorIndex := 1117, attributes := #[] }, { accessFlags := 24, nameIndex := 40, descriptorIndex := 26, attributes := #[] }, { accessFlags := 26, nameIndex := 1101, descriptorIndex := 1102, attributes := #[] }, { accessFlags := 26, nameIndex := 1121, descriptorIndex := 1122, attributes := #[] }, { accessFlags := 25, nameIndex := 599, descriptorIndex := 600, attributes := #[] }, { accessFlags := 24, nameIndex := 1125, descriptorIndex := 18, attributes := #[] }, { accessFlags := 24, nameIndex := 1127, descriptorIndex := 18, attributes := #[] }])
  fields := #[{ name := "value", type := (.array .byte), accessFlags := 18, slot := 0, constantValue := 0 }, { name := "coder", type := .byte, accessFlags := 18, slot := 1, constantValue := 0 }, { name := "hash", type := .int, accessFlags := 2, slot := 2, constantValue := 0 }, { name := "hashIsZero", type := .boolean, accessFlags := 2, slot := 3, constantValue := 0 }, { name := "serialVersionUID", type := .long, accessFlags := 26, slot := 0, constantValue := 0 }, { name := "COMPACT_STRINGS", type := .boolean, accessFlags := 24, slot := 1, constantValue := 0 }, { name := "serialPersistentFields", type := (.array (.object "java/io/ObjectStreamField")), accessFlags := 26, slot := 2, constantValue := 0 }, { name := "REPL", type := .char, accessFlags := 26, slot := 3, constantValue := 0 }, { name := "CASE_INSENSITIVE_ORDER", type := (.object "java/util/Comparator"), accessFlags := 25, slot := 4, constantValue := 0 }, { name := "LATIN1", type := .byte, accessFlags := 24, slot := 5, constantValue := 0 }, { name := "UTF16", type := .byte, accessFlags := 24, slot := 6, constantValue := 0 }]
  methods := #[k7m0, k7m1, k7m2, k7m3, k7m4, k7m5]
  instanceTypes := #[(.array .byte), .byte, .int, .boolean]
  staticTypes := #[.long, .boolean, (.array (.object "java/io/ObjectStreamField")), .char, (.object "java/util/Comparator"), .byte, .byte]
  resolved := Array.replicate 1451 none
  statics := some 0 }

def pool8 : Array CpInfo := pool [(6, .class_ 8), (1, u "java/lang/Object"), (0, u "<init>"), (0, u "()V"), (1, .class_ 14), (1, u "java/lang/StringUTF16"), (31, u "$assertionsDisabled"), (0, u "Z"), (13, u "HI_BYTE_SHIFT"), (0, u "I"), (2, u "LO_BYTE_SHIFT"), (49, .methodref 12 116), (0, .nameAndType 117 118), (0, u "compress"), (0, u "([CI[BII)I"), (3, u "([CII)[B"), (138, u "coderFromArrayLen"), (0, u "([BI)B"), (106, .class_ 371), (1, u "java/lang/StringUTF16$LinesSpliterator"), (58, u "MAX_LENGTH"), (196, .class_ 628), (0, u "java/lang/StringUTF16$CodePointsSpliterator"), (0, .class_ 630), (0, u "java/lang/StringUTF16$CharsSpliterator")] 4

def k8m0 : Method := { name := "<init>", desc := "()V", sig := { parameters := [], returnType := none }, accessFlags := 0, code := none }
def k8c1 : Code := { maxStack := 2, maxLocals := 2, code := jdk_52_method_15_code, exceptionTable := #[], attributes := #[] }
def k8m1 : Method := { name := "coderFromArrayLen", desc := "([BI)B", sig := { parameters := [(.array .byte), .int], returnType := some .byte }, accessFlags := 8, code := some k8c1 }
def k8c2 : Code := { maxStack := 5, maxLocals := 6, code := jdk_52_method_16_code, exceptionTable := #[], attributes := #[] }
def k8m2 : Method := { name := "compress", desc := "([CII)[B", sig := { parameters := [(.array .char), .int, .int], returnType := some (.array .byte) }, accessFlags := 9, code := some k8c2 }
def k8c3 : Code := { maxStack := 3, maxLocals := 7, code := jdk_52_method_21_code, exceptionTable := #[], attributes := #[] }
def k8m3 : Method := { name := "compress", desc := "([CI[BII)I", sig := { parameters := [(.array .char), .int, (.array .byte), .int, .int], returnType := some .int }, accessFlags := 9, code := some k8c3 }
/-- java/lang/StringUTF16 -/
def k8 : Class := { plain "java/lang/StringUTF16" (some 0) with
  accessFlags := 48
  interfaces := #[]
  cf := some (fileOf pool8 12 #[.nestMembers #[627, 629, 369]] #[{ accessFlags := 0, nameIndex := 9, descriptorIndex := 10, attributes := #[] }, { accessFlags := 8, nameIndex := 261, descriptorIndex := 262, attributes := #[] }, { accessFlags := 9, nameIndex := 117, descriptorIndex := 122, attributes := #[] }, { accessFlags := 9, nameIndex := 117, descriptorIndex := 118, attributes := #[] }] 48 6 #[] #[{ accessFlags := 26, nameIndex := 61, descriptorIndex := 62, attributes := #[] }, { accessFlags := 26, nameIndex := 65, descriptorIndex := 62, attributes := #[] }, { accessFlags := 24, nameIndex := 430, descriptorIndex := 62, attributes := #[] }, { accessFlags := 4120, nameIndex := 46, descriptorIndex := 47, attributes := #[] }])
  fields := #[{ name := "HI_BYTE_SHIFT", type := .int, accessFlags := 26, slot := 0, constantValue := 0 }, { name := "LO_BYTE_SHIFT", type := .int, accessFlags := 26, slot := 1, constantValue := 0 }, { name := "MAX_LENGTH", type := .int, accessFlags := 24, slot := 2, constantValue := 0 }, { name := "$assertionsDisabled", type := .boolean, accessFlags := 4120, slot := 3, constantValue := 0 }]
  methods := #[k8m0, k8m1, k8m2, k8m3]
  instanceTypes := #[]
  staticTypes := #[.int, .int, .int, .boolean]
  resolved := Array.replicate 635 none
  statics := none }

def pool9 : Array CpInfo := pool [(2, .class_ 4), (1, u "java/lang/Object"), (3, .class_ 10), (1, u "com/example/libroute/libroute/pattern/RoutePattern"), (0, u "text"), (0, u "Ljava/lang/String;"), (2, u "segments"), (0, u "Ljava/util/List;"), (2, u "parameters"), (0, u "Ljava/util/Map;"), (20, .class_ 43), (1, u "java/lang/String"), (80, .methodref 41 125), (0, .nameAndType 126 127), (0, u "charAt"), (0, u "(I)C"), (155, u "isName"), (0, u "(Ljava/lang/String;II)Z"), (41, u "NAME_RULE")] 110

def k9c0 : Code := { maxStack := 2, maxLocals := 6, code := prog_14_method_15_code, exceptionTable := #[], attributes := #[] }
def k9m0 : Method := { name := "isName", desc := "(Ljava/lang/String;II)Z", sig := { parameters := [(.object "java/lang/String"), .int, .int], returnType := some .boolean }, accessFlags := 8, code := some k9c0 }
/-- com/example/libroute/libroute/pattern/RoutePattern -/
def k9 : Class := { plain "com/example/libroute/libroute/pattern/RoutePattern" (some 0) with
  accessFlags := 49
  interfaces := #[]
  cf := some (fileOf pool9 8 #[] #[{ accessFlags := 8, nameIndex := 283, descriptorIndex := 284, attributes := #[] }] 49 2 #[] #[{ accessFlags := 24, nameIndex := 326, descriptorIndex := 12, attributes := #[] }, { accessFlags := 18, nameIndex := 11, descriptorIndex := 12, attributes := #[] }, { accessFlags := 18, nameIndex := 15, descriptorIndex := 16, attributes := #[] }, { accessFlags := 18, nameIndex := 19, descriptorIndex := 20, attributes := #[] }])
  fields := #[{ name := "NAME_RULE", type := (.object "java/lang/String"), accessFlags := 24, slot := 0, constantValue := 0 }, { name := "text", type := (.object "java/lang/String"), accessFlags := 18, slot := 0, constantValue := 0 }, { name := "segments", type := (.object "java/util/List"), accessFlags := 18, slot := 1, constantValue := 0 }, { name := "parameters", type := (.object "java/util/Map"), accessFlags := 18, slot := 2, constantValue := 0 }]
  methods := #[k9m0]
  instanceTypes := #[(.object "java/lang/String"), (.object "java/util/List"), (.object "java/util/Map")]
  staticTypes := #[(.object "java/lang/String")]
  resolved := Array.replicate 437 none
  statics := none }

def pool10 : Array CpInfo := pool [(1, .class_ 2), (0, u "java/lang/String"), (1, .class_ 6), (1, u "java/lang/Object"), (0, u "<init>"), (0, u "()V"), (0, .methodref 1 10), (0, .nameAndType 11 12), (0, u "checkIndex"), (0, u "(II)V"), (1, .class_ 16), (1, u "java/lang/StringLatin1"), (36, u "([BI)C"), (67, u "$assertionsDisabled"), (0, u "Z"), (98, .class_ 223), (1, u "java/lang/StringLatin1$LinesSpliterator"), (28, u "charAt"), (137, .class_ 391), (0, u "java/lang/StringLatin1$CharsSpliterator")] 3

def k10m0 : Method := { name := "<init>", desc := "()V", sig := { parameters := [], returnType := none }, accessFlags := 0, code := none }
def k10c1 : Code := { maxStack := 2, maxLocals := 2, code := jdk_43_method_2_code, exceptionTable := #[], attributes := #[] }
def k10m1 : Method := { name := "charAt", desc := "([BI)C", sig := { parameters := [(.array .byte), .int], returnType := some .char }, accessFlags := 9, code := some k10c1 }
/-- java/lang/StringLatin1 -/
def k10 : Class := { plain "java/lang/StringLatin1" (some 0) with
  accessFlags := 48
  interfaces := #[]
  cf := some (fileOf pool10 14 #[.nestMembers #[390, 221]] #[{ accessFlags := 0, nameIndex := 7, descriptorIndex := 8, attributes := #[] }, { accessFlags := 9, nameIndex := 252, descriptorIndex := 53, attributes := #[] }] 48 4 #[] #[{ accessFlags := 4120, nameIndex := 121, descriptorIndex := 122, attributes := #[] }])
  fields := #[{ name := "$assertionsDisabled", type := .boolean, accessFlags := 4120, slot := 0, constantValue := 0 }]
  methods := #[k10m0, k10m1]
  instanceTypes := #[]
  staticTypes := #[.boolean]
  resolved := Array.replicate 395 none
  statics := none }

def pool11 : Array CpInfo := pool [(2, .class_ 4), (1, u "java/lang/Object"), (0, u "<init>"), (0, u "()V"), (17, .class_ 26), (1, u "jdk/internal/util/Preconditions"), (6, u "checkIndex"), (21, .class_ 56), (0, u "jdk/internal/util/Preconditions$4"), (57, .class_ 115), (0, u "jdk/internal/util/Preconditions$1"), (7, u "SIOOBE_FORMATTER"), (0, u "Ljava/util/function/BiFunction;"), (0, .class_ 126), (0, u "jdk/internal/util/Preconditions$2"), (3, u "AIOOBE_FORMATTER"), (0, .class_ 132), (0, u "jdk/internal/util/Preconditions$3"), (3, u "IOOBE_FORMATTER"), (41, u "(IILjava/util/function/BiFunction;)I")] 15

def k11m0 : Method := { name := "<init>", desc := "()V", sig := { parameters := [], returnType := none }, accessFlags := 1, code := none }
def k11c1 : Code := { maxStack := 3, maxLocals := 3, code := jdk_41_method_11_code, exceptionTable := #[], attributes := #[] }
def k11m1 : Method := { name := "checkIndex", desc := "(IILjava/util/function/BiFunction;)I", sig := { parameters := [.int, .int, (.object "java/util/function/BiFunction")], returnType := some .int }, accessFlags := 9, code := some k11c1 }
/-- jdk/internal/util/Preconditions -/
def k11 : Class := { plain "jdk/internal/util/Preconditions" (some 0) with
  accessFlags := 33
  interfaces := #[]
  cf := some (fileOf pool11 24 #[.nestMembers #[55, 131, 125, 114]] #[{ accessFlags := 1, nameIndex := 5, descriptorIndex := 6, attributes := #[] }, { accessFlags := 9, nameIndex := 33, descriptorIndex := 178, attributes := #[] }] 33 2 #[] #[{ accessFlags := 25, nameIndex := 123, descriptorIndex := 124, attributes := #[] }, { accessFlags := 25, nameIndex := 130, descriptorIndex := 124, attributes := #[] }, { accessFlags := 25, nameIndex := 136, descriptorIndex := 124, attributes := #[] }])
  fields := #[{ name := "SIOOBE_FORMATTER", type := (.object "java/util/function/BiFunction"), accessFlags := 25, slot := 0, constantValue := 0 }, { name := "AIOOBE_FORMATTER", type := (.object "java/util/function/BiFunction"), accessFlags := 25, slot := 1, constantValue := 0 }, { name := "IOOBE_FORMATTER", type := (.object "java/util/function/BiFunction"), accessFlags := 25, slot := 2, constantValue := 0 }]
  methods := #[k11m0, k11m1]
  instanceTypes := #[]
  staticTypes := #[(.object "java/util/function/BiFunction"), (.object "java/util/function/BiFunction"), (.object "java/util/function/BiFunction")]
  resolved := Array.replicate 194 none
  statics := some 1 }

def pool12 : Array CpInfo := pool [(9, u "<init>"), (6, .class_ 18), (1, u "java/lang/Object"), (0, u "()V"), (1, .class_ 23), (1, u "jdk/internal/util/ArraysSupport"), (0, u "LOG2_ARRAY_LONG_INDEX_SCALE"), (0, u "I"), (2, u "U"), (0, u "Ljdk/internal/misc/Unsafe;"), (8, u "BIG_ENDIAN"), (0, u "Z"), (8, u "LOG2_BYTE_BIT_SIZE"), (4, u "LOG2_ARRAY_INT_INDEX_SCALE"), (54, u "JLA"), (0, u "Ljdk/internal/access/JavaLangAccess;"), (11, u "LOG2_ARRAY_BOOLEAN_INDEX_SCALE"), (9, u "LOG2_ARRAY_BYTE_INDEX_SCALE"), (5, u "LOG2_ARRAY_CHAR_INDEX_SCALE"), (5, u "LOG2_ARRAY_SHORT_INDEX_SCALE"), (18, u "LOG2_ARRAY_FLOAT_INDEX_SCALE"), (24, u "LOG2_ARRAY_DOUBLE_INDEX_SCALE"), (89, u "T_BOOLEAN"), (2, u "T_CHAR"), (1, u "T_FLOAT"), (1, u "T_DOUBLE"), (1, u "T_BYTE"), (1, u "T_SHORT"), (1, u "T_INT"), (1, u "T_LONG"), (1, u "SOFT_MAX_ARRAY_LENGTH")] 83

def k12m0 : Method := { name := "<init>", desc := "()V", sig := { parameters := [], returnType := none }, accessFlags := 2, code := none }
/-- jdk/internal/util/ArraysSupport -/
def k12 : Class := { plain "jdk/internal/util/ArraysSupport" (some 0) with
  accessFlags := 33
  interfaces := #[]
  cf := some (fileOf pool12 21 #[] #[{ accessFlags := 2, nameIndex := 9, descriptorIndex := 19, attributes := #[] }] 33 16 #[] #[{ accessFlags := 24, nameIndex := 28, descriptorIndex := 29, attributes := #[] }, { accessFlags := 26, nameIndex := 38, descriptorIndex := 39, attributes := #[] }, { accessFlags := 25, nameIndex := 121, descriptorIndex := 25, attributes := #[] }, { accessFlags := 25, nameIndex := 131, descriptorIndex := 25, attributes := #[] }, { accessFlags := 25, nameIndex := 137, descriptorIndex := 25, attributes := #[] }, { accessFlags := 25, nameIndex := 143, descriptorIndex := 25, attributes := #[] }, { accessFlags := 25, nameIndex := 53, descriptorIndex := 25, attributes := #[] }, { accessFlags := 25, nameIndex := 24, descriptorIndex := 25, attributes := #[] }, { accessFlags := 25, nameIndex := 162, descriptorIndex := 25, attributes := #[] }, { accessFlags := 25, nameIndex := 187, descriptorIndex := 25, attributes := #[] }, { accessFlags := 26, nameIndex := 48, descriptorIndex := 25, attributes := #[] }, { accessFlags := 25, nameIndex := 277, descriptorIndex := 25, attributes := #[] }, { accessFlags := 25, nameIndex := 280, descriptorIndex := 25, attributes := #[] }, { accessFlags := 25, nameIndex := 282, descriptorIndex := 25, attributes := #[] }, { accessFlags := 25, nameIndex := 284, descriptorIndex := 25, attributes := #[] }, { accessFlags := 25, nameIndex := 286, descriptorIndex := 25, attributes := #[] }, { accessFlags := 25, nameIndex := 288, descriptorIndex := 25, attributes := #[] }, { accessFlags := 25, nameIndex := 290, descriptorIndex := 25, attributes := #[] }, { accessFlags := 25, nameIndex := 292, descriptorIndex := 25, attributes := #[] }, { accessFlags := 26, nameIndex := 108, descriptorIndex := 109, attributes := #[] }, { accessFlags := 25, nameIndex := 294, descriptorIndex := 25, attributes := #[] }])
  fields := #[{ name := "U", type := (.object "jdk/internal/misc/Unsafe"), accessFlags := 24, slot := 0, constantValue := 0 }, { name := "BIG_ENDIAN", type := .boolean, accessFlags := 26, slot := 1, constantValue := 0 }, { name := "LOG2_ARRAY_BOOLEAN_INDEX_SCALE", type := .int, accessFlags := 25, slot := 2, constantValue := 0 }, { name := "LOG2_ARRAY_BYTE_INDEX_SCALE", type := .int, accessFlags := 25, slot := 3, constantValue := 0 }, { name := "LOG2_ARRAY_CHAR_INDEX_SCALE", type := .int, accessFlags := 25, slot := 4, constantValue := 0 }, { name := "LOG2_ARRAY_SHORT_INDEX_SCALE", type := .int, accessFlags := 25, slot := 5, constantValue := 0 }, { name := "LOG2_ARRAY_INT_INDEX_SCALE", type := .int, accessFlags := 25, slot := 6, constantValue := 0 }, { name := "LOG2_ARRAY_LONG_INDEX_SCALE", type := .int, accessFlags := 25, slot := 7, constantValue := 0 }, { name := "LOG2_ARRAY_FLOAT_INDEX_SCALE", type := .int, accessFlags := 25, slot := 8, constantValue := 0 }, { name := "LOG2_ARRAY_DOUBLE_INDEX_SCALE", type := .int, accessFlags := 25, slot := 9, constantValue := 0 }, { name := "LOG2_BYTE_BIT_SIZE", type := .int, accessFlags := 26, slot := 10, constantValue := 0 }, { name := "T_BOOLEAN", type := .int, accessFlags := 25, slot := 11, constantValue := 0 }, { name := "T_CHAR", type := .int, accessFlags := 25, slot := 12, constantValue := 0 }, { name := "T_FLOAT", type := .int, accessFlags := 25, slot := 13, constantValue := 0 }, { name := "T_DOUBLE", type := .int, accessFlags := 25, slot := 14, constantValue := 0 }, { name := "T_BYTE", type := .int, accessFlags := 25, slot := 15, constantValue := 0 }, { name := "T_SHORT", type := .int, accessFlags := 25, slot := 16, constantValue := 0 }, { name := "T_INT", type := .int, accessFlags := 25, slot := 17, constantValue := 0 }, { name := "T_LONG", type := .int, accessFlags := 25, slot := 18, constantValue := 0 }, { name := "JLA", type := (.object "jdk/internal/access/JavaLangAccess"), accessFlags := 26, slot := 19, constantValue := 0 }, { name := "SOFT_MAX_ARRAY_LENGTH", type := .int, accessFlags := 25, slot := 20, constantValue := 0 }]
  methods := #[k12m0]
  instanceTypes := #[]
  staticTypes := #[(.object "jdk/internal/misc/Unsafe"), .boolean, .int, .int, .int, .int, .int, .int, .int, .int, .int, .int, .int, .int, .int, .int, .int, .int, .int, (.object "jdk/internal/access/JavaLangAccess"), .int]
  resolved := Array.replicate 378 none
  statics := none }

def pool13 : Array CpInfo := pool [(1, u "java/lang/Cloneable"), (0, .class_ 1), (0, u "java/lang/Object"), (0, .class_ 3)] 3

/-- java/lang/Cloneable -/
def k13 : Class := { plain "java/lang/Cloneable" (some 0) with
  accessFlags := 1537
  interfaces := #[]
  cf := some (fileOf pool13 2 #[] #[] 1537 4 #[] #[])
  fields := #[]
  methods := #[]
  instanceTypes := #[]
  staticTypes := #[]
  resolved := Array.replicate 8 none
  statics := none }

/-- the primitive byte -/
def k14 : Class := { plain "byte" none with kind := .primitive 'B', accessFlags := 0x411 }
/-- [B -/
def k15 : Class := { plain "[B" (some 0) with kind := .array 14 .byte, interfaces := #[13, 2], accessFlags := 1041 }

/-- the primitive char -/
def k16 : Class := { plain "char" none with kind := .primitive 'C', accessFlags := 0x411 }
/-- [C -/
def k17 : Class := { plain "[C" (some 0) with kind := .array 16 .char, interfaces := #[13, 2], accessFlags := 1041 }

/-- the primitive int -/
def k18 : Class := { plain "int" none with kind := .primitive 'I', accessFlags := 0x411 }
/-- [I -/
def k19 : Class := { plain "[I" (some 0) with kind := .array 18 .int, interfaces := #[13, 2], accessFlags := 1041 }

def heap : Heap := #[{ cls := 7, slots := #[.long 0, .int 1, .null, .int 0, .null, .int 0, .int 0], vm := .statics 7 },
  { cls := 11, slots := #[.null, .null, .null], vm := .statics 11 }]
def classes : Array Class := #[k0, k1, k2, k3, k4, k5, k6, k7, k8, k9, k10, k11, k12, k13, k14, k15, k16, k17, k18, k19]
def interned : List (Array UInt16 × Addr) := []
def slotsUsed : Nat := 10
def theMethod : MethodId := ⟨1, 3⟩
def args0 : Array Value := #[.int 65, .int 66, .int 67, .int 68, .int 0, .int 2]
def aboutOver (below : List Frame) : State where
  vm := { classes := classes, interned := interned.toArray }
  heap := heap
  slotsUsed := slotsUsed
  threads := #[{ frames := .invoking theMethod args0 :: below }]
def below0 : List Frame := [.native { method := ⟨0, 0⟩, args := #[] }]
def about1 : State := aboutOver below0
def p0 : Program := .bare "" "" ""
def e0 : Env := launch0.env 0 0 0
theorem w_frames : about1.frames = Frame.invoking theMethod args0 :: below0 := rfl
set_option maxRecDepth 65536 in
theorem w_args : argsFit about1.vm theMethod args0 = true := by decide +kernel
set_option maxRecDepth 65536 in
theorem w_heap : heapFits about1 = true := by decide +kernel
set_option maxRecDepth 65536 in
theorem w_runnable : about1.curStatus? = some .runnable := by decide +kernel
set_option maxRecDepth 65536 in
theorem w_alone : about1.alone = true := by decide +kernel
set_option maxRecDepth 65536 in
theorem w_named : about1.methodNamed? x = some theMethod := by decide +kernel
set_option maxRecDepth 65536 in
theorem w_hears : about1.hears theMethod below0 = true := by decide +kernel
set_option maxRecDepth 65536 in
theorem w_ripe : about1.ripe theMethod args0 below0 = true := by decide +kernel
theorem w_running : about1.status = .running := rfl
set_option maxRecDepth 65536 in
theorem w_room : about1.hasRoom e0.platform room_1 = true :=
  launch0.hasRoom_least _ room_1 (by decide +kernel) (by decide +kernel) (by decide +kernel) (by decide +kernel) (by decide +kernel) (by decide +kernel)
theorem allAtoms_all (ts : List Jvm.Cond) (a : Array Jvm.Value) (st : Jvm.State) : (allAtoms ts).before a st = ts.all (fun c => c.before a st) := by
  induction ts with
  | nil => rfl
  | cons c t ih =>
    show (Jvm.Cond.and c (allAtoms t)).before a st = _
    rw [Jvm.Cond.before_and, ih, List.all_cons]
def words1 : List Jvm.Cond := Jvm.Cond.code x code maxLocals ret :: tables_1
/-- a 'code' word, met by the world's own term for the bytes: nothing is compared byte by byte -/
theorem code_word {y : MethodName} {bytes : ByteArray} {mx : Nat} {rt : Option FieldType} {a : Array Value} {s : State} {m : MethodId} {meth : Method} {c : Code} (h1 : s.methodNamed? y = some m) (h2 : s.vm.method? m = some meth) (h3 : meth.code = some c) (h4 : c.code = bytes)
    (h5 : (c.maxLocals == mx && c.exceptionTable.isEmpty && decide (c.maxStack ≤ mostOperands) && decide (meth.sig.returnType = rt) && !meth.locks && decide (parseMethodDescriptor y.desc = some meth.sig)) = true) : (Jvm.Cond.code y bytes mx rt).before a s = true := by
  simp only [Bool.and_eq_true, beq_iff_eq, Bool.not_eq_true', decide_eq_true_eq] at h5
  obtain ⟨⟨⟨⟨⟨g1, g2⟩, g3⟩, g4⟩, g5⟩, g6⟩ := h5
  simp [Cond.before, Cond.holds, Cond.value, h1, h2, h3, h4, g1, g2, g3, g4, g5, g6]
def isCode : Jvm.Cond → Bool
  | .code _ _ _ _ => true
  | _ => false
theorem all_split {L : List Jvm.Cond} {P : Jvm.Cond → Bool} (h1 : L.all (fun c => isCode c || P c) = true) (h2 : ∀ c ∈ L.filter isCode, P c = true) : L.all P = true := by
  refine List.all_eq_true.mpr fun c hc => ?_
  have h := List.all_eq_true.mp h1 c hc
  rcases Bool.eq_false_or_eq_true (isCode c) with hi | hi
  · exact h2 c (List.mem_filter.mpr ⟨hc, hi⟩)
  · simpa [hi] using h
set_option maxRecDepth 65536 in
theorem w_c0 : (Jvm.Cond.code x code maxLocals ret).before args0 about1 = true := code_word (m := ⟨1, 3⟩) (meth := k1m3) (c := k1c3) (by decide +kernel) rfl rfl rfl (by decide +kernel)
set_option maxRecDepth 65536 in
theorem w_c1 : (Jvm.Cond.code ({ cls := "java/lang/String", name := "<init>", desc := "([C)V" } : Jvm.MethodName) jdk_42_method_3_code (2 : Nat) (Option.none : Option Jvm.ClassFile.FieldType)).before args0 about1 = true := code_word (m := ⟨7, 1⟩) (meth := k7m1) (c := k7c1) (by decide +kernel) rfl rfl rfl (by decide +kernel)
set_option maxRecDepth 65536 in
theorem w_c2 : (Jvm.Cond.code ({ cls := "java/lang/String", name := "<init>", desc := "([CIILjava/lang/Void;)V" } : Jvm.MethodName) jdk_42_method_149_code (6 : Nat) (Option.none : Option Jvm.ClassFile.FieldType)).before args0 about1 = true := code_word (m := ⟨7, 3⟩) (meth := k7m3) (c := k7c3) (by decide +kernel) rfl rfl rfl (by decide +kernel)
set_option maxRecDepth 65536 in
theorem w_c3 : (Jvm.Cond.code ({ cls := "java/lang/Object", name := "<init>", desc := "()V" } : Jvm.MethodName) object_method_1_code (1 : Nat) (Option.none : Option Jvm.ClassFile.FieldType)).before args0 about1 = true := code_word (m := ⟨0, 0⟩) (meth := k0m0) (c := k0c0) (by decide +kernel) rfl rfl rfl (by decide +kernel)
set_option maxRecDepth 65536 in
theorem w_c4 : (Jvm.Cond.code ({ cls := "java/lang/StringUTF16", name := "compress", desc := "([CII)[B" } : Jvm.MethodName) jdk_52_method_16_code (6 : Nat) (Option.some (Jvm.ClassFile.FieldType.array Jvm.ClassFile.FieldType.byte))).before args0 about1 = true := code_word (m := ⟨8, 2⟩) (meth := k8m2) (c := k8c2) (by decide +kernel) rfl rfl rfl (by decide +kernel)
set_option maxRecDepth 65536 in
theorem w_c5 : (Jvm.Cond.code ({ cls := "java/lang/StringUTF16", name := "compress", desc := "([CI[BII)I" } : Jvm.MethodName) jdk_52_method_21_code (7 : Nat) (Option.some Jvm.ClassFile.FieldType.int)).before args0 about1 = true := code_word (m := ⟨8, 3⟩) (meth := k8m3) (c := k8c3) (by decide +kernel) rfl rfl rfl (by decide +kernel)
set_option maxRecDepth 65536 in
theorem w_c6 : (Jvm.Cond.code ({ cls := "java/lang/StringUTF16", name := "coderFromArrayLen", desc := "([BI)B" } : Jvm.MethodName) jdk_52_method_15_code (2 : Nat) (Option.some Jvm.ClassFile.FieldType.byte)).before args0 about1 = true := code_word (m := ⟨8, 1⟩) (meth := k8m1) (c := k8c1) (by decide +kernel) rfl rfl rfl (by decide +kernel)
set_option maxRecDepth 65536 in
theorem w_c7 : (Jvm.Cond.code ({ cls := "com/example/libroute/libroute/pattern/RoutePatternIsNamePinLaw", name := "inside", desc := "(IIIC)Z" } : Jvm.MethodName) method_3_code (4 : Nat) (Option.some Jvm.ClassFile.FieldType.boolean)).before args0 about1 = true := code_word (m := ⟨1, 2⟩) (meth := k1m2) (c := k1c2) (by decide +kernel) rfl rfl rfl (by decide +kernel)
set_option maxRecDepth 65536 in
theorem w_c8 : (Jvm.Cond.code ({ cls := "com/example/libroute/libroute/pattern/RoutePatternIsNamePinLaw", name := "ok", desc := "(CZ)Z" } : Jvm.MethodName) method_2_code (4 : Nat) (Option.some Jvm.ClassFile.FieldType.boolean)).before args0 about1 = true := code_word (m := ⟨1, 1⟩) (meth := k1m1) (c := k1c1) (by decide +kernel) rfl rfl rfl (by decide +kernel)
set_option maxRecDepth 65536 in
theorem w_c9 : (Jvm.Cond.code ({ cls := "com/example/libroute/libroute/pattern/RoutePattern", name := "isName", desc := "(Ljava/lang/String;II)Z" } : Jvm.MethodName) prog_14_method_15_code (6 : Nat) (Option.some Jvm.ClassFile.FieldType.boolean)).before args0 about1 = true := code_word (m := ⟨9, 0⟩) (meth := k9m0) (c := k9c0) (by decide +kernel) rfl rfl rfl (by decide +kernel)
set_option maxRecDepth 65536 in
theorem w_c10 : (Jvm.Cond.code ({ cls := "java/lang/String", name := "charAt", desc := "(I)C" } : Jvm.MethodName) jdk_42_method_56_code (2 : Nat) (Option.some Jvm.ClassFile.FieldType.char)).before args0 about1 = true := code_word (m := ⟨7, 2⟩) (meth := k7m2) (c := k7c2) (by decide +kernel) rfl rfl rfl (by decide +kernel)
set_option maxRecDepth 65536 in
theorem w_c11 : (Jvm.Cond.code ({ cls := "java/lang/String", name := "isLatin1", desc := "()Z" } : Jvm.MethodName) jdk_42_method_154_code (1 : Nat) (Option.some Jvm.ClassFile.FieldType.boolean)).before args0 about1 = true := code_word (m := ⟨7, 4⟩) (meth := k7m4) (c := k7c4) (by decide +kernel) rfl rfl rfl (by decide +kernel)
set_option maxRecDepth 65536 in
theorem w_c12 : (Jvm.Cond.code ({ cls := "java/lang/StringLatin1", name := "charAt", desc := "([BI)C" } : Jvm.MethodName) jdk_43_method_2_code (2 : Nat) (Option.some Jvm.ClassFile.FieldType.char)).before args0 about1 = true := code_word (m := ⟨10, 1⟩) (meth := k10m1) (c := k10c1) (by decide +kernel) rfl rfl rfl (by decide +kernel)
set_option maxRecDepth 65536 in
theorem w_c13 : (Jvm.Cond.code ({ cls := "java/lang/String", name := "checkIndex", desc := "(II)V" } : Jvm.MethodName) jdk_42_method_155_code (2 : Nat) (Option.none : Option Jvm.ClassFile.FieldType)).before args0 about1 = true := code_word (m := ⟨7, 5⟩) (meth := k7m5) (c := k7c5) (by decide +kernel) rfl rfl rfl (by decide +kernel)
set_option maxRecDepth 65536 in
theorem w_c14 : (Jvm.Cond.code ({ cls := "jdk/internal/util/Preconditions", name := "checkIndex", desc := "(IILjava/util/function/BiFunction;)I" } : Jvm.MethodName) jdk_41_method_11_code (3 : Nat) (Option.some Jvm.ClassFile.FieldType.int)).before args0 about1 = true := code_word (m := ⟨11, 1⟩) (meth := k11m1) (c := k11c1) (by decide +kernel) rfl rfl rfl (by decide +kernel)
def codes1 : List Jvm.Cond := [Jvm.Cond.code x code maxLocals ret, Jvm.Cond.code ({ cls := "java/lang/String", name := "<init>", desc := "([C)V" } : Jvm.MethodName) jdk_42_method_3_code (2 : Nat) (Option.none : Option Jvm.ClassFile.FieldType), Jvm.Cond.code ({ cls := "java/lang/String", name := "<init>", desc := "([CIILjava/lang/Void;)V" } : Jvm.MethodName) jdk_42_method_149_code (6 : Nat) (Option.none : Option Jvm.ClassFile.FieldType), Jvm.Cond.code ({ cls := "java/lang/Object", name := "<init>", desc := "()V" } : Jvm.MethodName) object_method_1_code (1 : Nat) (Option.none : Option Jvm.ClassFile.FieldType), Jvm.Cond.code ({ cls := "java/lang/StringUTF16", name := "compress", desc := "([CII)[B" } : Jvm.MethodName) jdk_52_method_16_code (6 : Nat) (Option.some (Jvm.ClassFile.FieldType.array Jvm.ClassFile.FieldType.byte)), Jvm.Cond.code ({ cls := "java/lang/StringUTF16", name := "compress", desc := "([CI[BII)I" } : Jvm.MethodName) jdk_52_method_21_code (7 : Nat) (Option.some Jvm.ClassFile.FieldType.int), Jvm.Cond.code ({ cls := "java/lang/StringUTF16", name := "coderFromArrayLen", desc := "([BI)B" } : Jvm.MethodName) jdk_52_method_15_code (2 : Nat) (Option.some Jvm.ClassFile.FieldType.byte), Jvm.Cond.code ({ cls := "com/example/libroute/libroute/pattern/RoutePatternIsNamePinLaw", name := "inside", desc := "(IIIC)Z" } : Jvm.MethodName) method_3_code (4 : Nat) (Option.some Jvm.ClassFile.FieldType.boolean), Jvm.Cond.code ({ cls := "com/example/libroute/libroute/pattern/RoutePatternIsNamePinLaw", name := "ok", desc := "(CZ)Z" } : Jvm.MethodName) method_2_code (4 : Nat) (Option.some Jvm.ClassFile.FieldType.boolean), Jvm.Cond.code ({ cls := "com/example/libroute/libroute/pattern/RoutePattern", name := "isName", desc := "(Ljava/lang/String;II)Z" } : Jvm.MethodName) prog_14_method_15_code (6 : Nat) (Option.some Jvm.ClassFile.FieldType.boolean), Jvm.Cond.code ({ cls := "java/lang/String", name := "charAt", desc := "(I)C" } : Jvm.MethodName) jdk_42_method_56_code (2 : Nat) (Option.some Jvm.ClassFile.FieldType.char), Jvm.Cond.code ({ cls := "java/lang/String", name := "isLatin1", desc := "()Z" } : Jvm.MethodName) jdk_42_method_154_code (1 : Nat) (Option.some Jvm.ClassFile.FieldType.boolean), Jvm.Cond.code ({ cls := "java/lang/StringLatin1", name := "charAt", desc := "([BI)C" } : Jvm.MethodName) jdk_43_method_2_code (2 : Nat) (Option.some Jvm.ClassFile.FieldType.char), Jvm.Cond.code ({ cls := "java/lang/String", name := "checkIndex", desc := "(II)V" } : Jvm.MethodName) jdk_42_method_155_code (2 : Nat) (Option.none : Option Jvm.ClassFile.FieldType), Jvm.Cond.code ({ cls := "jdk/internal/util/Preconditions", name := "checkIndex", desc := "(IILjava/util/function/BiFunction;)I" } : Jvm.MethodName) jdk_41_method_11_code (3 : Nat) (Option.some Jvm.ClassFile.FieldType.int)]
set_option maxRecDepth 65536 in
theorem codes_eq : words1.filter isCode = codes1 := rfl
theorem w_codes : ∀ c ∈ words1.filter isCode, c.before args0 about1 = true := by
  rw [codes_eq]
  intro c hc
  simp only [codes1, List.mem_cons, List.not_mem_nil, or_false] at hc
  rcases hc with rfl | rfl | rfl | rfl | rfl | rfl | rfl | rfl | rfl | rfl | rfl | rfl | rfl | rfl | rfl
  · exact w_c0
  · exact w_c1
  · exact w_c2
  · exact w_c3
  · exact w_c4
  · exact w_c5
  · exact w_c6
  · exact w_c7
  · exact w_c8
  · exact w_c9
  · exact w_c10
  · exact w_c11
  · exact w_c12
  · exact w_c13
  · exact w_c14
set_option maxRecDepth 65536 in
theorem w_t1 : (words1.take 24).all (fun c => isCode c || c.before args0 about1) = true := by decide +kernel
set_option maxRecDepth 65536 in
theorem w_t2 : ((words1.drop 24).take 24).all (fun c => isCode c || c.before args0 about1) = true := by decide +kernel
set_option maxRecDepth 65536 in
theorem w_t3 : ((words1.drop 24).drop 24).all (fun c => isCode c || c.before args0 about1) = true := by decide +kernel
theorem w_tables : (allAtoms (Jvm.Cond.code x code maxLocals ret :: tables_1)).before args0 about1 = true := by
  rw [allAtoms_all]
  show words1.all (fun c => c.before args0 about1) = true
  refine all_split ?_ w_codes
  rw [← List.take_append_drop 24 words1, List.all_append, w_t1, ← List.take_append_drop 24 (words1.drop 24), List.all_append, w_t2, w_t3]
  rfl
set_option maxRecDepth 65536 in
theorem w_rest : rest_1_c.before args0 about1 = true := by decide +kernel
set_option maxRecDepth 65536 in
theorem w_case : (Jvm.Cond.and given_1 narrow_1).before args0 about1 = true := by decide +kernel
theorem w_applies : (headSpec (Jvm.Cond.code x code maxLocals ret :: tables_1) room_1).applies x e0.platform about1 = true :=
  (Spec.applies_iff w_frames).mpr ⟨w_running, w_runnable, w_alone, w_named, w_hears, w_ripe, w_room, w_tables⟩
theorem atStart : AtStart classFile x code maxLocals ret World_1 tables_1 room_1 Calls_1 rest_1 Pre_1 launch0 p0 e0 about1 theMethod args0 below0 :=
  ⟨lists_1, trivial, launch0.admits_env _ _ _, launch0.least_env, fairChoices_fair.cas, fairChoices_fair.clock, w_frames, w_args, w_heap, w_applies, trivial, w_rest, w_case⟩
end start1
theorem witness_1 : WitnessClaimed_1 := ⟨start1.p0, start1.e0, start1.about1, start1.theMethod, start1.args0, start1.below0, start1.atStart⟩
end Jvm.Pilot.@@N@@
