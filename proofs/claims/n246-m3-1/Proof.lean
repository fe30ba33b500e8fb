import JvmDerived
import JvmDerived.Pilot.@@N@@Statement
import JvmDerived.Pilot.@@N@@Code
set_option linter.unusedVariables false
set_option linter.unusedSimpArgs false
/- laws to paste: Road.backV, Road.codOf (cut by pick.py; bodies as the Statement names them) -/
namespace Jvm.Pilot.@@N@@
namespace StrChars
open Jvm Sem ClassFile Op Lib Jvm.Stand Jvm.Free.XT Jvm.Free.ALB Jvm.Free.JM Jvm.Free
open Jvm.Lib.Cold (StaticIs)
/-- a char array whose places are chars -/
def Ch (a : Addr) (A : Cell) (U : State) : Prop := Arr .char a A U ∧ Typed .char A
theorem Ch.mv {a : Addr} {A : Cell} {U U' : State} (h : Ch a A U) (hal : U.vm.Alike U'.vm) (hh : U'.heap = U.heap) : Ch a A U' := ⟨h.1.mv hal hh, h.2⟩
theorem Ch.keep {a : Addr} {A : Cell} {U U' : State} (h : Ch a A U) (hal : U.vm.Alike U'.vm) (hk : U'.heap[a]? = some A) : Ch a A U' := ⟨h.1.keep hal hk, h.2⟩
/-- what place i of a char[]'s cell holds -/
def cv (A : Cell) (i : Nat) : Int32 := match A.slots[i]? with | some (.int x) => x | _ => 0
theorem Ch.get {a : Addr} {A : Cell} {U : State} (h : Ch a A U) {i : Nat} (hi : i < A.slots.size) : A.slots[i]? = some (.int (cv A i)) := by
  have e := Array.getElem?_eq_getElem hi
  have f := h.2 i _ e
  unfold cv; rw [e]
  generalize A.slots[i] = v at f
  cases v <;> simp [fits] at f ⊢
/-- the byte that i2b leaves of a char -/
def lo8 (x : Int32) : Int32 := x.toInt8.toInt32
theorem fits_lo8 (y : Int32) : fits .byte (.int (lo8 y)) = true := by
  have h1 := y.toInt8.le_toInt
  have h2 := y.toInt8.toInt_lt
  simp only [lo8, fits, Bool.and_eq_true, decide_eq_true_eq, Int32.le_iff_toInt_le, Int8.toInt_toInt32, show (-128 : Int32).toInt = -128 from by decide, show (127 : Int32).toInt = 127 from by decide]
  omega
/-- A' is A but that each place j of lo .. hi - 1 holds f j -/
def Laid (A A' : Cell) (lo hi : Nat) (f : Nat → Value) : Prop := A'.cls = A.cls ∧ A'.vm = A.vm ∧ A'.slots.size = A.slots.size ∧ ∀ i, A'.slots[i]? = if lo ≤ i ∧ i < hi then some (f i) else A.slots[i]?
theorem Laid.zero (A : Cell) (lo : Nat) (f : Nat → Value) : Laid A A lo (lo + 0) f := ⟨rfl, rfl, rfl, fun i => by rw [if_neg (by omega)]⟩
theorem Laid.step {A Ak : Cell} {lo k : Nat} {f : Nat → Value} {v : Value} (h : Laid A Ak lo k f) (hlo : lo ≤ k) (hk : k < Ak.slots.size) (hv : v = f k) : Laid A (Ak.setSlot k v) lo (k + 1) f := by
  refine ⟨h.1, h.2.1, by simpa [Cell.setSlot] using h.2.2.1, fun i => ?_⟩
  by_cases e : k = i
  · subst e; rw [Cell.slots_setSlot_self v hk, if_pos (by omega), hv]
  · rw [Cell.slots_setSlot_ne v e, h.2.2.2 i]
    by_cases q : lo ≤ i ∧ i < k
    · rw [if_pos q, if_pos (by omega)]
    · rw [if_neg q, if_neg (by omega)]
def U16 : String := "java/lang/StringUTF16"
namespace Cmp5
def yN : MethodName := ⟨"java/lang/StringUTF16", "compress", "([CI[BII)I"⟩
abbrev yB : ByteArray := jdk_52_method_21_code
theorem d0 : decode yB 0 = .ok (.iconst 0, 1) := by decide +kernel
theorem d1 : decode yB 1 = .ok (.istore 5, 2) := by decide +kernel
theorem d3 : decode yB 3 = .ok (.iload 5, 2) := by decide +kernel
theorem d5 : decode yB 5 = .ok (.iload 4, 2) := by decide +kernel
theorem d7 : decode yB 7 = .ok (.if_icmp (.ge) 37, 3) := by decide +kernel
theorem d10 : decode yB 10 = .ok (.aload_n 0, 1) := by decide +kernel
theorem d11 : decode yB 11 = .ok (.iload_n 1, 1) := by decide +kernel
theorem d12 : decode yB 12 = .ok (.caload, 1) := by decide +kernel
theorem d13 : decode yB 13 = .ok (.istore 6, 2) := by decide +kernel
theorem d15 : decode yB 15 = .ok (.iload 6, 2) := by decide +kernel
theorem d17 : decode yB 17 = .ok (.sipush 255, 3) := by decide +kernel
theorem d20 : decode yB 20 = .ok (.if_icmp (.le) 6, 3) := by decide +kernel
theorem d26 : decode yB 26 = .ok (.aload_n 2, 1) := by decide +kernel
theorem d27 : decode yB 27 = .ok (.iload_n 3, 1) := by decide +kernel
theorem d28 : decode yB 28 = .ok (.iload 6, 2) := by decide +kernel
theorem d30 : decode yB 30 = .ok (.i2b, 1) := by decide +kernel
theorem d31 : decode yB 31 = .ok (.bastore, 1) := by decide +kernel
theorem d32 : decode yB 32 = .ok (.iinc 1 1, 3) := by decide +kernel
theorem d35 : decode yB 35 = .ok (.iinc 3 1, 3) := by decide +kernel
theorem d38 : decode yB 38 = .ok (.iinc 5 1, 3) := by decide +kernel
theorem d41 : decode yB 41 = .ok (.goto (-38), 3) := by decide +kernel
theorem d44 : decode yB 44 = .ok (.iload 4, 2) := by decide +kernel
theorem d46 : decode yB 46 = .ok (.ireturn, 1) := by decide +kernel
def site : List Cond := []
def tab : Cond := tabOf yN yB 7 (some .int) site
def P (b : Addr) (A : Cell) (d : Addr) (B : Cell) (o q len : Nat) (args : Array Value) (s : State) : Prop := args = #[.ref b, .int (Int32.ofNat o), .ref d, .int (Int32.ofNat q), .int (Int32.ofNat len)] ∧ Ch b A s ∧ Arr .byte d B s ∧ b ≠ d ∧ o + len ≤ A.slots.size ∧ q + len ≤ B.slots.size ∧ ∀ i, i < len → ¬ 255 < cv A (o + i)
def E (b : Addr) (A : Cell) (d : Addr) (B : Cell) (o q len : Nat) (r : Option Value) (s u : State) : Prop := r = some (.int (Int32.ofNat len)) ∧ ∃ B', Put d B' s u ∧ Laid B B' q (q + len) (fun j => Value.int (lo8 (cv A (o + (j - q)))))
/-- no char of the range above 255: len; the places written hold each char's low byte -/
theorem law (l : Launch) (b : Addr) (A : Cell) (d : Addr) (B : Cell) (o q len : Nat) : Law l yN 5 5 0 0 yB 7 (some .int) site (P b A d B o q len) (E b A d B o q len) (copyLocs d q len) 0 0 := by
  refine Law.of_walk (plainFor_of_name (by decide +kernel)) (by decide +kernel) (by decide +kernel) (by decide) (fun _ _ h => by rw [h.1]; rfl) (fun _ U U' hal hh h => ⟨h.1, h.2.1.mv hal hh, h.2.2.1.mv hal hh, h.2.2.2⟩) (fun r U U' V V' h1 hal h2 h => ⟨h.1, h.2.elim fun B' q => ⟨B', q.1.mv h1 h2, q.2⟩⟩) ?_
  intro p e s m args below meth c s₁ X0 hexec hbytes hml hret hlk hnm hown hh0 W hP
  obtain ⟨rfl, hA, hB, hne, l1, l2, hp⟩ := hP
  have c1 : Steps p.tables e below (s₁.setTop (entryFrame m #[.ref b, .int (Int32.ofNat o), .ref d, .int (Int32.ofNat q), .int (Int32.ofNat len)] 7)) (s₁.setTop (mkF m 0 #[.val (.ref b), .val (.int (Int32.ofNat o)), .val (.ref d), .val (.int (Int32.ofNat q)), .val (.int (Int32.ofNat len)), .unset, .unset] [])) := entry rfl
  have hA0 := hA.1.mv X0.warmed.alike hh0
  have hB0 := hB.mv X0.warmed.alike hh0
  have a31 := hA.1.2.2.2
  have c2 : Steps p.tables e below (s₁.setTop (entryFrame m #[.ref b, .int (Int32.ofNat o), .ref d, .int (Int32.ofNat q), .int (Int32.ofNat len)] 7)) (s₁.setTop (mkF m 3 #[.val (.ref b), .val (.int (Int32.ofNat o)), .val (.ref d), .val (.int (Int32.ofNat q)), .val (.int (Int32.ofNat len)), .val (.int 0), .unset] [])) := c1.trans (by
    refine iconstV X0.here hexec rfl 0 (hb hbytes d0) (by decide) ?_
    refine XS.istore X0.here hexec rfl (hb hbytes d1) rfl rfl ?_
    exact Steps.refl _)
  have loop : ∀ (r i : Nat), i + r = len → ∀ (z : Slot), (z = .unset ∨ ∃ w, z = .val w ∧ w.category = 1) → ∀ (Tl : State) (Bk : Cell), Stand p l e { frames := 0, locals := 0, cells := 0, slots := 0 } s m #[.ref b, .int (Int32.ofNat o), .ref d, .int (Int32.ofNat q), .int (Int32.ofNat len)] below meth c Tl ([] ++ copyLocs d q i) 0 0 → Put d Bk s₁ Tl → Laid B Bk q (q + i) (fun j => Value.int (lo8 (cv A (o + (j - q))))) →
      Steps p.tables e below (s₁.setTop (entryFrame m #[.ref b, .int (Int32.ofNat o), .ref d, .int (Int32.ofNat q), .int (Int32.ofNat len)] 7)) (Tl.setTop (mkF m 3 #[.val (.ref b), .val (.int (Int32.ofNat (o + i))), .val (.ref d), .val (.int (Int32.ofNat (q + i))), .val (.int (Int32.ofNat len)), .val (.int (Int32.ofNat i)), z] [])) → ∃ (T' : State) (B' : Cell) (z' : Slot), Stand p l e { frames := 0, locals := 0, cells := 0, slots := 0 } s m #[.ref b, .int (Int32.ofNat o), .ref d, .int (Int32.ofNat q), .int (Int32.ofNat len)] below meth c T' ([] ++ copyLocs d q len) 0 0 ∧ Put d B' s₁ T' ∧ Laid B B' q (q + len) (fun j => Value.int (lo8 (cv A (o + (j - q))))) ∧
      Steps p.tables e below (s₁.setTop (entryFrame m #[.ref b, .int (Int32.ofNat o), .ref d, .int (Int32.ofNat q), .int (Int32.ofNat len)] 7)) (T'.setTop (mkF m 3 #[.val (.ref b), .val (.int (Int32.ofNat (o + len))), .val (.ref d), .val (.int (Int32.ofNat (q + len))), .val (.int (Int32.ofNat len)), .val (.int (Int32.ofNat len)), z'] [])) := by
    intro r
    induction r with
    | zero =>
      intro i hi z hz Tl Bk Xl pl fl cl
      have hil : i = len := by omega
      rw [hil] at Xl fl cl
      exact ⟨Tl, Bk, z, Xl, pl, fl, cl⟩
    | succ r ih =>
      intro i hi z hz Tl Bk Xl pl fl cl
      have all := X0.warmed.alike.symm.trans Xl.warmed.alike
      have hAl := hA0.keep all (pl.other hne hA0.1)
      have hBk := hB0.like all pl.1 fl.1 fl.2.1 fl.2.2.1
      have hlt : q + i < Bk.slots.size := by rw [fl.2.2.1]; omega
      have c3 : Steps p.tables e below (s₁.setTop (entryFrame m #[.ref b, .int (Int32.ofNat o), .ref d, .int (Int32.ofNat q), .int (Int32.ofNat len)] 7)) (Tl.setTop (mkF m 12 #[.val (.ref b), .val (.int (Int32.ofNat (o + i))), .val (.ref d), .val (.int (Int32.ofNat (q + i))), .val (.int (Int32.ofNat len)), .val (.int (Int32.ofNat i)), z] [.int (Int32.ofNat (o + i)), .ref b])) := cl.trans (by
        refine XS.iload Xl.here hexec rfl (hb hbytes d3) rfl ?_
        refine XS.iload Xl.here hexec rfl (hb hbytes d5) rfl ?_
        refine XS.icmpNo Xl.here hexec rfl (hb hbytes d7) rfl (ii_ge_f (lt32 (by omega) (by omega))) ?_
        refine XS.aloadN Xl.here hexec rfl (hb hbytes d10) rfl rfl ?_
        refine XS.iloadN Xl.here hexec rfl (hb hbytes d11) rfl ?_
        exact Steps.refl _)
      have c4 : Steps p.tables e below (s₁.setTop (entryFrame m #[.ref b, .int (Int32.ofNat o), .ref d, .int (Int32.ofNat q), .int (Int32.ofNat len)] 7)) (Tl.setTop (mkF m 13 #[.val (.ref b), .val (.int (Int32.ofNat (o + i))), .val (.ref d), .val (.int (Int32.ofNat (q + i))), .val (.int (Int32.ofNat len)), .val (.int (Int32.ofNat i)), z] [.int (cv A (o + i))])) := c3.trans (by
        refine Xl.aget hexec hAl rfl (hA.get (i := o + i) (by omega)) rfl rfl (hb hbytes d12) ?_
        exact Steps.refl _)
      have c5 : Steps p.tables e below (s₁.setTop (entryFrame m #[.ref b, .int (Int32.ofNat o), .ref d, .int (Int32.ofNat q), .int (Int32.ofNat len)] 7)) (Tl.setTop (mkF m 15 #[.val (.ref b), .val (.int (Int32.ofNat (o + i))), .val (.ref d), .val (.int (Int32.ofNat (q + i))), .val (.int (Int32.ofNat len)), .val (.int (Int32.ofNat i)), .val (.int (cv A (o + i)))] [])) := c4.trans (by
        refine XS.istoreS Xl.here hexec rfl (hb hbytes d13) rfl rfl hz ?_
        exact Steps.refl _)
      have c6 : Steps p.tables e below (s₁.setTop (entryFrame m #[.ref b, .int (Int32.ofNat o), .ref d, .int (Int32.ofNat q), .int (Int32.ofNat len)] 7)) (Tl.setTop (mkF m 31 #[.val (.ref b), .val (.int (Int32.ofNat (o + i))), .val (.ref d), .val (.int (Int32.ofNat (q + i))), .val (.int (Int32.ofNat len)), .val (.int (Int32.ofNat i)), .val (.int (cv A (o + i)))] [.int (lo8 (cv A (o + i))), .int (Int32.ofNat (q + i)), .ref d])) := c5.trans (by
        refine XS.iload Xl.here hexec rfl (hb hbytes d15) rfl ?_
        refine sipushV Xl.here hexec rfl 255 (hb hbytes d17) (by decide) ?_
        refine XS.icmpYes Xl.here hexec rfl (pc0 := 20) rfl (hb hbytes d20) rfl (ii_le_t (hp i (by omega))) (by decide) rfl ?_
        refine XS.aloadN Xl.here hexec rfl (hb hbytes d26) rfl rfl ?_
        refine XS.iloadN Xl.here hexec rfl (hb hbytes d27) rfl ?_
        refine XS.iload Xl.here hexec rfl (hb hbytes d28) rfl ?_
        refine i2b Xl.here hexec rfl (hb hbytes d30) rfl ?_
        exact Steps.refl _)
      obtain ⟨T7, X7, p7, st7⟩ := Xl.aput hexec hBk rfl hlt rfl (fits_lo8 (cv A (o + i))) (g := (mkF m 31 #[.val (.ref b), .val (.int (Int32.ofNat (o + i))), .val (.ref d), .val (.int (Int32.ofNat (q + i))), .val (.int (Int32.ofNat len)), .val (.int (Int32.ofNat i)), .val (.int (cv A (o + i)))] [.int (lo8 (cv A (o + i))), .int (Int32.ofNat (q + i)), .ref d])) rfl (rest := []) rfl (hb hbytes d31)
      have c8 : Steps p.tables e below (s₁.setTop (entryFrame m #[.ref b, .int (Int32.ofNat o), .ref d, .int (Int32.ofNat q), .int (Int32.ofNat len)] 7)) (T7.setTop (mkF m 32 #[.val (.ref b), .val (.int (Int32.ofNat (o + i))), .val (.ref d), .val (.int (Int32.ofNat (q + i))), .val (.int (Int32.ofNat len)), .val (.int (Int32.ofNat i)), .val (.int (cv A (o + i)))] [])) := c6.trans (st7 _ (Steps.refl _))
      have c9 : Steps p.tables e below (s₁.setTop (entryFrame m #[.ref b, .int (Int32.ofNat o), .ref d, .int (Int32.ofNat q), .int (Int32.ofNat len)] 7)) (T7.setTop (mkF m 3 #[.val (.ref b), .val (.int (Int32.ofNat (o + i) + 1)), .val (.ref d), .val (.int (Int32.ofNat (q + i) + 1)), .val (.int (Int32.ofNat len)), .val (.int (Int32.ofNat i + 1)), .val (.int (cv A (o + i)))] [])) := c8.trans (by
        refine iincV X7.here hexec rfl 1 (hb hbytes d32) (by decide) rfl rfl ?_
        refine iincV X7.here hexec rfl 1 (hb hbytes d35) (by decide) rfl rfl ?_
        refine iincV X7.here hexec rfl 1 (hb hbytes d38) (by decide) rfl rfl ?_
        refine XS.goto X7.here hexec rfl (pc0 := 41) rfl (hb hbytes d41) (by decide) rfl ?_
        exact Steps.refl _)
      have c10 : Steps p.tables e below (s₁.setTop (entryFrame m #[.ref b, .int (Int32.ofNat o), .ref d, .int (Int32.ofNat q), .int (Int32.ofNat len)] 7)) (T7.setTop (mkF m 3 #[.val (.ref b), .val (.int (Int32.ofNat (o + (i + 1)))), .val (.ref d), .val (.int (Int32.ofNat (q + (i + 1)))), .val (.int (Int32.ofNat len)), .val (.int (Int32.ofNat (i + 1))), .val (.int (cv A (o + i)))] [])) := by
        have := c9
        rw [succ32, succ32, succ32] at this
        exact this
      exact ih (i + 1) (by omega) _ (Or.inr ⟨_, rfl, rfl⟩) T7 _ (by rw [copyLocs_step, ← List.append_assoc]; exact X7) (pl.trans p7) (fl.step (by omega) hlt (by simp)) c10
  obtain ⟨T9, B9, z9, X9, p9, f9, g9⟩ := loop len 0 (by omega) .unset (Or.inl rfl) s₁ B (by simpa [copyLocs] using X0) ⟨hB0.1, fun _ _ => rfl, rfl⟩ (Laid.zero _ _ _) c2
  have c11 : Steps p.tables e below (s₁.setTop (entryFrame m #[.ref b, .int (Int32.ofNat o), .ref d, .int (Int32.ofNat q), .int (Int32.ofNat len)] 7)) (T9.setTop (mkF m 46 #[.val (.ref b), .val (.int (Int32.ofNat (o + len))), .val (.ref d), .val (.int (Int32.ofNat (q + len))), .val (.int (Int32.ofNat len)), .val (.int (Int32.ofNat len)), z9] [.int (Int32.ofNat len)])) := g9.trans (by
    refine XS.iload X9.here hexec rfl (hb hbytes d3) rfl ?_
    refine XS.iload X9.here hexec rfl (hb hbytes d5) rfl ?_
    refine XS.icmpYes X9.here hexec rfl (pc0 := 7) rfl (hb hbytes d7) rfl (ii_ge_t (nlt32 (by omega) (Nat.le_refl _))) (by decide) rfl ?_
    refine XS.iload X9.here hexec rfl (hb hbytes d44) rfl ?_
    exact Steps.refl _)
  exact ⟨T9, some (.int (Int32.ofNat len)), _, _, _, X9, by simp, rfl, rfl, (fun h => by cases h), ⟨rfl, B9, p9.from hh0, f9⟩, fun fs hl => c11.trans (X9.ireturnOut hexec hret rfl (Or.inl rfl) (hb hbytes d46) hl)⟩
end Cmp5
namespace Cmp3
def yN : MethodName := ⟨"java/lang/StringUTF16", "compress", "([CII)[B"⟩
abbrev yB : ByteArray := jdk_52_method_16_code
theorem d0 : decode yB 0 = .ok (.iload_n 2, 1) := by decide +kernel
theorem d1 : decode yB 1 = .ok (.newarray .byte, 2) := by decide +kernel
theorem d3 : decode yB 3 = .ok (.astore_n 3, 1) := by decide +kernel
theorem d4 : decode yB 4 = .ok (.aload_n 0, 1) := by decide +kernel
theorem d5 : decode yB 5 = .ok (.iload_n 1, 1) := by decide +kernel
theorem d6 : decode yB 6 = .ok (.aload_n 3, 1) := by decide +kernel
theorem d7 : decode yB 7 = .ok (.iconst 0, 1) := by decide +kernel
theorem d8 : decode yB 8 = .ok (.iload_n 2, 1) := by decide +kernel
theorem d9 : decode yB 9 = .ok (.invokestatic 115, 3) := by decide +kernel
theorem d12 : decode yB 12 = .ok (.istore 4, 2) := by decide +kernel
theorem d14 : decode yB 14 = .ok (.iload 4, 2) := by decide +kernel
theorem d16 : decode yB 16 = .ok (.iload_n 2, 1) := by decide +kernel
theorem d17 : decode yB 17 = .ok (.if_icmp (.eq) 40, 3) := by decide +kernel
theorem d57 : decode yB 57 = .ok (.aload_n 3, 1) := by decide +kernel
theorem d58 : decode yB 58 = .ok (.areturn, 1) := by decide +kernel
def site : List Cond := [.arrayClass .byte, Cmp5.tab] ++ staticW U16 115 Cmp5.yN
def tab : Cond := tabOf yN yB 6 (some (.array .byte)) site
def P (b : Addr) (A : Cell) (o len : Nat) (args : Array Value) (s : State) : Prop := args = #[.ref b, .int (Int32.ofNat o), .int (Int32.ofNat len)] ∧ Ch b A s ∧ o + len ≤ A.slots.size ∧ len ≤ 536870912 ∧ ∀ i, i < len → ¬ 255 < cv A (o + i)
def E (b : Addr) (A : Cell) (o len : Nat) (r : Option Value) (s u : State) : Prop := NewArr .byte "[B" len (fun j => .int (lo8 (cv A (o + j)))) r s u ∧ u.heap.size = s.heap.size + 1
/-- no char of the range above 255: a new byte[] of their low bytes -/
theorem law (l : Launch) (b : Addr) (A : Cell) (o len : Nat) : Law l yN 3 3 1 18 yB 6 (some (.array .byte)) site (P b A o len) (E b A o len) [] 1 len := by
  refine Law.of_walk (plainFor_of_name (by decide +kernel)) (by decide +kernel) (by decide +kernel) (by decide) (fun _ _ h => by rw [h.1]; rfl) (fun _ U U' hal hh h => ⟨h.1, h.2.1.mv hal hh, h.2.2⟩) (fun r U U' V V' h1 hal h2 h => ⟨NewArr.mv r U U' V V' h1 hal h2 h.1, by rw [h1, h2]; exact h.2⟩) ?_
  intro p e s m args below meth c s₁ X0 hexec hbytes hml hret hlk hnm hown hh0 W hP
  obtain ⟨rfl, hA, l1, l2, hp⟩ := hP
  have a31 := hA.1.2.2.2
  have c1 : Steps p.tables e below (s₁.setTop (entryFrame m #[.ref b, .int (Int32.ofNat o), .int (Int32.ofNat len)] 6)) (s₁.setTop (mkF m 0 #[.val (.ref b), .val (.int (Int32.ofNat o)), .val (.int (Int32.ofNat len)), .unset, .unset, .unset] [])) := entry rfl
  have c2 : Steps p.tables e below (s₁.setTop (entryFrame m #[.ref b, .int (Int32.ofNat o), .int (Int32.ofNat len)] 6)) (s₁.setTop (mkF m 1 #[.val (.ref b), .val (.int (Int32.ofNat o)), .val (.int (Int32.ofNat len)), .unset, .unset, .unset] [.int (Int32.ofNat len)])) := c1.trans (by
    refine XS.iloadN X0.here hexec rfl (hb hbytes d0) rfl ?_
    exact Steps.refl _)
  obtain ⟨T3, B3, X3, ba3, bs3, bv3, bh3, bf3, st3⟩ := X0.anew hexec (atype := .byte) (wk W (.arrayClass .byte)) rfl (by show len * 1 ≤ _; omega) (by omega) (g := (mkF m 1 #[.val (.ref b), .val (.int (Int32.ofNat o)), .val (.int (Int32.ofNat len)), .unset, .unset, .unset] [.int (Int32.ofNat len)])) rfl (hb hbytes d1) (rest := []) rfl (Nat.le_refl _) (by show 0 + len ≤ len; omega)
  rw [hh0] at ba3 st3
  have kp3 : XT.Kept s T3 := (XT.Kept.of_eq hh0).push bh3
  have hA3 := hA.keep X3.warmed.alike (kp3 _ _ hA.1.1)
  have hne : b ≠ s.heap.size := hA.1.ne
  have c4 : Steps p.tables e below (s₁.setTop (entryFrame m #[.ref b, .int (Int32.ofNat o), .int (Int32.ofNat len)] 6)) (T3.setTop (mkF m 3 #[.val (.ref b), .val (.int (Int32.ofNat o)), .val (.int (Int32.ofNat len)), .unset, .unset, .unset] [.ref s.heap.size])) := c2.trans (st3 _ (Steps.refl _))
  have c5 : Steps p.tables e below (s₁.setTop (entryFrame m #[.ref b, .int (Int32.ofNat o), .int (Int32.ofNat len)] 6)) (T3.setTop (mkF m 9 #[.val (.ref b), .val (.int (Int32.ofNat o)), .val (.int (Int32.ofNat len)), .val (.ref s.heap.size), .unset, .unset] [.int (Int32.ofNat len), .int 0, .ref s.heap.size, .int (Int32.ofNat o), .ref b])) := c4.trans (by
    refine XS.astoreN X3.here hexec rfl (hb hbytes d3) rfl rfl rfl ?_
    refine XS.aloadN X3.here hexec rfl (hb hbytes d4) rfl rfl ?_
    refine XS.iloadN X3.here hexec rfl (hb hbytes d5) rfl ?_
    refine XS.aloadN X3.here hexec rfl (hb hbytes d6) rfl rfl ?_
    refine iconstV X3.here hexec rfl 0 (hb hbytes d7) (by decide) ?_
    refine XS.iloadN X3.here hexec rfl (hb hbytes d8) rfl ?_
    exact Steps.refl _)
  obtain ⟨v6, T6, X6, E6, g6⟩ := X3.callS hexec (Cmp5.law l b A s.heap.size B3 o 0 len) hown (wks W (staticW U16 115 Cmp5.yN)) (wk W Cmp5.tab) (W := 0) (Nat.le_of_ble_eq_true rfl) (Nat.le_of_ble_eq_true rfl) (Nat.le_refl _) (by show 0 + len + 0 ≤ len; omega) (g := (mkF m 9 #[.val (.ref b), .val (.int (Int32.ofNat o)), .val (.int (Int32.ofNat len)), .val (.ref s.heap.size), .unset, .unset] [.int (Int32.ofNat len), .int (Int32.ofNat 0), .ref s.heap.size, .int (Int32.ofNat o), .ref b])) rfl (by rw [hml]; rfl) c5 (argsL := [.ref b, .int (Int32.ofNat o), .ref s.heap.size, .int (Int32.ofNat 0), .int (Int32.ofNat len)]) (rest := []) rfl rfl (by show 2 * 0 + 0 ≤ _; decide) (hb hbytes d9) (⟨rfl, hA3, ba3, hne, l1, by rw [bs3]; simp, hp⟩)
  obtain ⟨rfl, B6, p6, f6⟩ := E6
  have c7 : Steps p.tables e below (s₁.setTop (entryFrame m #[.ref b, .int (Int32.ofNat o), .int (Int32.ofNat len)] 6)) (T6.setTop (mkF m 12 #[.val (.ref b), .val (.int (Int32.ofNat o)), .val (.int (Int32.ofNat len)), .val (.ref s.heap.size), .unset, .unset] [.int (Int32.ofNat len)])) := g6
  have c8 : Steps p.tables e below (s₁.setTop (entryFrame m #[.ref b, .int (Int32.ofNat o), .int (Int32.ofNat len)] 6)) (T6.setTop (mkF m 58 #[.val (.ref b), .val (.int (Int32.ofNat o)), .val (.int (Int32.ofNat len)), .val (.ref s.heap.size), .val (.int (Int32.ofNat len)), .unset] [.ref s.heap.size])) := c7.trans (by
    refine XS.istore X6.here hexec rfl (hb hbytes d12) rfl rfl ?_
    refine XS.iload X6.here hexec rfl (hb hbytes d14) rfl ?_
    refine XS.iloadN X6.here hexec rfl (hb hbytes d16) rfl ?_
    refine XS.icmpYes X6.here hexec rfl (pc0 := 17) rfl (hb hbytes d17) rfl (ii_eq_t rfl) (by decide) rfl ?_
    refine XS.aloadN X6.here hexec rfl (hb hbytes d57) rfl rfl ?_
    exact Steps.refl _)
  have X8 := X6.wide (L' := []) (cells' := 1) (slots' := len) (fun x hx hlt => by
    simp only [List.nil_append, copyLocs, List.mem_map, List.mem_range] at hx
    obtain ⟨i, -, rfl⟩ := hx
    exact absurd hlt (Nat.lt_irrefl _)) (Nat.le_refl _) (by omega)
  exact ⟨T6, some (.ref s.heap.size), _, _, _, X8, rfl, rfl, rfl, (fun h => by cases h), ⟨⟨rfl, B6, ba3.like (X3.warmed.alike.symm.trans X6.warmed.alike) p6.1 f6.1 f6.2.1 f6.2.2.1, f6.2.1.trans bv3, by rw [X6.warmed.alike.findClass, f6.1]; exact bf3, by rw [f6.2.2.1, bs3]; simp, fun j hj => by rw [f6.2.2.2 j, if_pos (by omega)]; rfl, kp3.put p6 (Nat.le_refl _)⟩, by rw [p6.2.2, bh3, hh0]; simp⟩, fun fs hl => c8.trans (X8.areturnOut hexec rfl hret rfl (hb hbytes d58) hl)⟩
end Cmp3
namespace CodL
def yN : MethodName := ⟨"java/lang/StringUTF16", "coderFromArrayLen", "([BI)B"⟩
abbrev yB : ByteArray := jdk_52_method_15_code
theorem d0 : decode yB 0 = .ok (.iload_n 1, 1) := by decide +kernel
theorem d1 : decode yB 1 = .ok (.aload_n 0, 1) := by decide +kernel
theorem d2 : decode yB 2 = .ok (.arraylength, 1) := by decide +kernel
theorem d3 : decode yB 3 = .ok (.isub, 1) := by decide +kernel
theorem d4 : decode yB 4 = .ok (.bipush 31, 2) := by decide +kernel
theorem d6 : decode yB 6 = .ok (.iushr, 1) := by decide +kernel
theorem d7 : decode yB 7 = .ok (.i2b, 1) := by decide +kernel
theorem d8 : decode yB 8 = .ok (.ireturn, 1) := by decide +kernel
def site : List Cond := []
def tab : Cond := tabOf yN yB 2 (some .byte) site
def P (d : Addr) (B : Cell) (args : Array Value) (s : State) : Prop := args = #[.ref d, .int (Int32.ofNat B.slots.size)] ∧ Arr .byte d B s
def E (r : Option Value) (s u : State) : Prop := XT.PureE (some (.int 0)) r s u
/-- an array as long as the number of chars: LATIN1 -/
theorem law (l : Launch) (d : Addr) (B : Cell) : Law l yN 2 2 0 0 yB 2 (some .byte) site (P d B) E [] 0 0 := by
  refine Law.of_walk (plainFor_of_name (by decide +kernel)) (by decide +kernel) (by decide +kernel) (by decide) (fun _ _ h => by rw [h.1]; rfl) (fun _ U U' hal hh h => ⟨h.1, h.2.mv hal hh⟩) (fun r U U' V V' h1 hal h2 h => XT.PureE.mv r U U' V V' h1 hal h2 h) ?_
  intro p e s m args below meth c s₁ X0 hexec hbytes hml hret hlk hnm hown hh0 W hP
  obtain ⟨rfl, hB⟩ := hP
  have hB0 := hB.mv X0.warmed.alike hh0
  have c1 : Steps p.tables e below (s₁.setTop (entryFrame m #[.ref d, .int (Int32.ofNat B.slots.size)] 2)) (s₁.setTop (mkF m 0 #[.val (.ref d), .val (.int (Int32.ofNat B.slots.size))] [])) := entry rfl
  have c2 : Steps p.tables e below (s₁.setTop (entryFrame m #[.ref d, .int (Int32.ofNat B.slots.size)] 2)) (s₁.setTop (mkF m 2 #[.val (.ref d), .val (.int (Int32.ofNat B.slots.size))] [.ref d, .int (Int32.ofNat B.slots.size)])) := c1.trans (by
    refine XS.iloadN X0.here hexec rfl (hb hbytes d0) rfl ?_
    refine XS.aloadN X0.here hexec rfl (hb hbytes d1) rfl rfl ?_
    exact Steps.refl _)
  have c3 : Steps p.tables e below (s₁.setTop (entryFrame m #[.ref d, .int (Int32.ofNat B.slots.size)] 2)) (s₁.setTop (mkF m 8 #[.val (.ref d), .val (.int (Int32.ofNat B.slots.size))] [.int (lo8 (ushr (Int32.ofNat B.slots.size - Int32.ofNat B.slots.size) 31))])) := c2.trans (by
    refine X0.alen hexec hB0 rfl rfl (hb hbytes d2) ?_
    refine XS.isub X0.here hexec rfl (hb hbytes d3) rfl ?_
    refine bipushV X0.here hexec rfl 31 (hb hbytes d4) (by decide) ?_
    refine iushr X0.here hexec rfl (hb hbytes d6) rfl ?_
    refine i2b X0.here hexec rfl (hb hbytes d7) rfl ?_
    exact Steps.refl _)
  have e0 : lo8 (ushr (Int32.ofNat B.slots.size - Int32.ofNat B.slots.size) 31) = 0 := by rw [Int32.sub_self]; decide
  rw [e0] at c3
  exact ⟨s₁, some (.int 0), _, _, _, X0, rfl, rfl, rfl, (fun h => by cases h), ⟨rfl, hh0⟩, fun fs hl => c3.trans (X0.ireturnOut hexec hret rfl (Or.inr (Or.inr (Or.inl rfl))) (hb hbytes d8) hl)⟩
end CodL
/-- the String at a is Latin-1 over a new byte[] (the heap's one new cell): the low bytes of the len chars of A from o on; every cell but a is kept -/
def Got (a : Addr) (D : Cell) (fV fC : Field) (A : Cell) (o len : Nat) (r : Option Value) (s u : State) : Prop := r = none ∧ ∃ D' V : Cell, Blank "java/lang/String" a D' u ∧ Same D D' [fV.slot, fC.slot] ∧ D'.slots[fV.slot]? = some (.ref s.heap.size) ∧ D'.slots[fC.slot]? = some (.int 0) ∧ Arr .byte s.heap.size V u ∧ V.vm = .none ∧ u.vm.findClass "[B" = some V.cls ∧ V.slots.size = len ∧ (∀ j, j < len → V.slots[j]? = some (.int (lo8 (cv A (o + j))))) ∧ (∀ (y : Addr) (c : Cell), y ≠ a → s.heap[y]? = some c → u.heap[y]? = some c) ∧ u.heap.size = s.heap.size + 1
theorem Got.mv {a : Addr} {D A : Cell} {fV fC : Field} {o len : Nat} : ∀ r (U U' V V' : State), U'.heap = U.heap → V.vm.Alike V'.vm → V'.heap = V.heap → Got a D fV fC A o len r U V → Got a D fV fC A o len r U' V' :=
  fun r U U' V V' h1 hal h2 ⟨e0, D', X, a1, a2, a3, a4, a5, a6, a7, a8, a9, a10, a11⟩ => ⟨e0, D', X, a1.mv hal h2, a2, by rw [h1]; exact a3, a4, by rw [h1]; exact a5.mv hal h2, a6, by rw [hal.findClass]; exact a7, a8, a9, by rw [h1, h2]; exact a10, by rw [h1, h2]; exact a11⟩
namespace New4
def yN : MethodName := ⟨"java/lang/String", "<init>", "([CIILjava/lang/Void;)V"⟩
abbrev yB : ByteArray := jdk_42_method_149_code
theorem d0 : decode yB 0 = .ok (.aload_n 0, 1) := by decide +kernel
theorem d1 : decode yB 1 = .ok (.invokespecial 1, 3) := by decide +kernel
theorem d4 : decode yB 4 = .ok (.iload_n 3, 1) := by decide +kernel
theorem d5 : decode yB 5 = .ok (.ifCond (.ne) 22, 3) := by decide +kernel
theorem d27 : decode yB 27 = .ok (.getstatic 38, 3) := by decide +kernel
theorem d30 : decode yB 30 = .ok (.ifCond (.eq) 28, 3) := by decide +kernel
theorem d33 : decode yB 33 = .ok (.aload_n 1, 1) := by decide +kernel
theorem d34 : decode yB 34 = .ok (.iload_n 2, 1) := by decide +kernel
theorem d35 : decode yB 35 = .ok (.iload_n 3, 1) := by decide +kernel
theorem d36 : decode yB 36 = .ok (.invokestatic 177, 3) := by decide +kernel
theorem d39 : decode yB 39 = .ok (.astore 5, 2) := by decide +kernel
theorem d41 : decode yB 41 = .ok (.aload_n 0, 1) := by decide +kernel
theorem d42 : decode yB 42 = .ok (.aload 5, 2) := by decide +kernel
theorem d44 : decode yB 44 = .ok (.iload_n 3, 1) := by decide +kernel
theorem d45 : decode yB 45 = .ok (.invokestatic 47, 3) := by decide +kernel
theorem d48 : decode yB 48 = .ok (.putfield 15, 3) := by decide +kernel
theorem d51 : decode yB 51 = .ok (.aload_n 0, 1) := by decide +kernel
theorem d52 : decode yB 52 = .ok (.aload 5, 2) := by decide +kernel
theorem d54 : decode yB 54 = .ok (.putfield 9, 3) := by decide +kernel
theorem d57 : decode yB 57 = .ok (.return_, 1) := by decide +kernel
def site : List Cond := [.fieldLink "java/lang/String" 38 "java/lang/String" "COMPACT_STRINGS" "Z", Cmp3.tab, CodL.tab, .laysFinal "java/lang/String" "java/lang/String" "value" "[B", .fieldLink "java/lang/String" 9 "java/lang/String" "value" "[B", .laysFinal "java/lang/String" "java/lang/String" "coder" "B", .fieldLink "java/lang/String" 15 "java/lang/String" "coder" "B"] ++ objW "java/lang/String" 1 ++ staticW "java/lang/String" 177 Cmp3.yN ++ staticW "java/lang/String" 47 CodL.yN
def tab : Cond := tabOf yN yB 6 none site
def P (a : Addr) (D : Cell) (fV fC : Field) (b : Addr) (A : Cell) (z : Int32) (o len : Nat) (args : Array Value) (s : State) : Prop := args = #[.ref a, .ref b, .int (Int32.ofNat o), .int (Int32.ofNat len), .null] ∧ Blank "java/lang/String" a D s ∧ Found "java/lang/String" "value" "[B" fV s ∧ Found "java/lang/String" "coder" "B" fC s ∧ Ch b A s ∧ StaticIs s "java/lang/String" "COMPACT_STRINGS" "Z" (.int z) ∧ ¬ z = 0 ∧ 0 < len ∧ o + len ≤ A.slots.size ∧ len ≤ 536870912 ∧ ∀ i, i < len → ¬ 255 < cv A (o + i)
def E (a : Addr) (D : Cell) (fV fC : Field) (A : Cell) (o len : Nat) (r : Option Value) (s u : State) : Prop := Got a D fV fC A o len r s u
/-- len > 0, no char of the range above 255: a Latin-1 String of their low bytes -/
theorem law (l : Launch) (a : Addr) (D : Cell) (fV fC : Field) (b : Addr) (A : Cell) (z : Int32) (o len : Nat) : Law l yN 5 4 2 35 yB 6 none site (P a D fV fC b A z o len) (E a D fV fC A o len) [⟨a, fC.slot⟩, ⟨a, fV.slot⟩] 1 len := by
  refine Law.of_walk (plainFor_of_name (by decide +kernel)) (by decide +kernel) (by decide +kernel) (by decide) (fun _ _ h => by rw [h.1]; rfl) (fun _ U U' hal hh h => ⟨h.1, h.2.1.mv hal hh, h.2.2.1.al hal, h.2.2.2.1.al hal, h.2.2.2.2.1.mv hal hh, h.2.2.2.2.2.1.there hal hh, h.2.2.2.2.2.2⟩) (fun r U U' V V' h1 hal h2 h => Got.mv r U U' V V' h1 hal h2 h) ?_
  intro p e s m args below meth c s₁ X0 hexec hbytes hml hret hlk hnm hown hh0 W hP
  obtain ⟨rfl, hB, f1, f2, hA, s1, hz, l0, l1, l2, hp⟩ := hP
  have a31 := hA.1.2.2.2
  have c1 : Steps p.tables e below (s₁.setTop (entryFrame m #[.ref a, .ref b, .int (Int32.ofNat o), .int (Int32.ofNat len), .null] 6)) (s₁.setTop (mkF m 0 #[.val (.ref a), .val (.ref b), .val (.int (Int32.ofNat o)), .val (.int (Int32.ofNat len)), .val .null, .unset] [])) := entry rfl
  have c2 : Steps p.tables e below (s₁.setTop (entryFrame m #[.ref a, .ref b, .int (Int32.ofNat o), .int (Int32.ofNat len), .null] 6)) (s₁.setTop (mkF m 1 #[.val (.ref a), .val (.ref b), .val (.int (Int32.ofNat o)), .val (.int (Int32.ofNat len)), .val .null, .unset] [.ref a])) := c1.trans (by
    refine XS.aloadN X0.here hexec rfl (hb hbytes d0) rfl rfl ?_
    exact Steps.refl _)
  obtain ⟨T3, X3, q3, st3⟩ := X0.oinit hexec hown (wks W (objW "java/lang/String" 1)) (g := (mkF m 1 #[.val (.ref a), .val (.ref b), .val (.int (Int32.ofNat o)), .val (.int (Int32.ofNat len)), .val .null, .unset] [.ref a])) rfl (by rw [hml]; rfl) (rest := []) rfl (hb hbytes d1) (W := 0) (by show 2 * 0 + 0 ≤ _; decide) (Nat.le_of_ble_eq_true rfl) (Nat.le_of_ble_eq_true rfl)
  have hh3 := q3.trans hh0
  have c4 : Steps p.tables e below (s₁.setTop (entryFrame m #[.ref a, .ref b, .int (Int32.ofNat o), .int (Int32.ofNat len), .null] 6)) (T3.setTop (mkF m 27 #[.val (.ref a), .val (.ref b), .val (.int (Int32.ofNat o)), .val (.int (Int32.ofNat len)), .val .null, .unset] [])) := (c2.trans (st3 _ (Steps.refl _))).trans (by
    refine XS.iloadN X3.here hexec rfl (hb hbytes d4) rfl ?_
    refine XS.ifYes X3.here hexec rfl (pc0 := 5) rfl (hb hbytes d5) rfl (i0_ne_t (nz32 (by omega) l0)) (by decide) rfl ?_
    exact Steps.refl _)
  obtain ⟨T5, X5, q5, st5⟩ := X3.sget hexec hown (wk W (.fieldLink "java/lang/String" 38 "java/lang/String" "COMPACT_STRINGS" "Z")) s1 (fun _ _ h => by rw [hh3]; exact h) (g := (mkF m 27 #[.val (.ref a), .val (.ref b), .val (.int (Int32.ofNat o)), .val (.int (Int32.ofNat len)), .val .null, .unset] [])) rfl (hb hbytes d27)
  have hh5 := q5.trans hh3
  have c6 : Steps p.tables e below (s₁.setTop (entryFrame m #[.ref a, .ref b, .int (Int32.ofNat o), .int (Int32.ofNat len), .null] 6)) (T5.setTop (mkF m 30 #[.val (.ref a), .val (.ref b), .val (.int (Int32.ofNat o)), .val (.int (Int32.ofNat len)), .val .null, .unset] [.int z])) := c4.trans (st5 _ (Steps.refl _))
  have c7 : Steps p.tables e below (s₁.setTop (entryFrame m #[.ref a, .ref b, .int (Int32.ofNat o), .int (Int32.ofNat len), .null] 6)) (T5.setTop (mkF m 36 #[.val (.ref a), .val (.ref b), .val (.int (Int32.ofNat o)), .val (.int (Int32.ofNat len)), .val .null, .unset] [.int (Int32.ofNat len), .int (Int32.ofNat o), .ref b])) := c6.trans (by
    refine XS.ifNo X5.here hexec rfl (hb hbytes d30) rfl (i0_eq_f hz) ?_
    refine XS.aloadN X5.here hexec rfl (hb hbytes d33) rfl rfl ?_
    refine XS.iloadN X5.here hexec rfl (hb hbytes d34) rfl ?_
    refine XS.iloadN X5.here hexec rfl (hb hbytes d35) rfl ?_
    exact Steps.refl _)
  obtain ⟨v8, T8, X8, E8, g8⟩ := X5.callS hexec (Cmp3.law l b A o len) hown (wks W (staticW "java/lang/String" 177 Cmp3.yN)) (wk W Cmp3.tab) (W := 0) (Nat.le_of_ble_eq_true rfl) (Nat.le_of_ble_eq_true rfl) (Nat.le_refl _) (by show 0 + len ≤ len; omega) (g := (mkF m 36 #[.val (.ref a), .val (.ref b), .val (.int (Int32.ofNat o)), .val (.int (Int32.ofNat len)), .val .null, .unset] [.int (Int32.ofNat len), .int (Int32.ofNat o), .ref b])) rfl (by rw [hml]; rfl) c7 (argsL := [.ref b, .int (Int32.ofNat o), .int (Int32.ofNat len)]) (rest := []) rfl rfl (by show 2 * 0 + 0 ≤ _; decide) (hb hbytes d36) (⟨rfl, hA.mv X5.warmed.alike hh5, l1, l2, hp⟩)
  obtain ⟨e8, z8⟩ := E8
  obtain ⟨rfl, N, n1, n2, n3, n4, n5, n6⟩ := NewArr.mv _ T5 s _ _ hh5.symm (Vm.Alike.refl _) rfl e8
  rw [hh5] at z8
  have hB1 := hB.keep X8.warmed.alike (n6 _ _ hB.1)
  have hne : s.heap.size ≠ a := (Nat.ne_of_lt (Array.getElem?_eq_some_iff.mp hB.1).1).symm
  have c9 : Steps p.tables e below (s₁.setTop (entryFrame m #[.ref a, .ref b, .int (Int32.ofNat o), .int (Int32.ofNat len), .null] 6)) (T8.setTop (mkF m 39 #[.val (.ref a), .val (.ref b), .val (.int (Int32.ofNat o)), .val (.int (Int32.ofNat len)), .val .null, .unset] [.ref s.heap.size])) := g8
  have c10 : Steps p.tables e below (s₁.setTop (entryFrame m #[.ref a, .ref b, .int (Int32.ofNat o), .int (Int32.ofNat len), .null] 6)) (T8.setTop (mkF m 45 #[.val (.ref a), .val (.ref b), .val (.int (Int32.ofNat o)), .val (.int (Int32.ofNat len)), .val .null, .val (.ref s.heap.size)] [.int (Int32.ofNat N.slots.size), .ref s.heap.size, .ref a])) := by
    have hc : Steps p.tables e below (s₁.setTop (entryFrame m #[.ref a, .ref b, .int (Int32.ofNat o), .int (Int32.ofNat len), .null] 6)) (T8.setTop (mkF m 45 #[.val (.ref a), .val (.ref b), .val (.int (Int32.ofNat o)), .val (.int (Int32.ofNat len)), .val .null, .val (.ref s.heap.size)] [.int (Int32.ofNat len), .ref s.heap.size, .ref a])) := c9.trans (by
      refine XS.astore X8.here hexec rfl (hb hbytes d39) rfl rfl rfl ?_
      refine XS.aloadN X8.here hexec rfl (hb hbytes d41) rfl rfl ?_
      refine XS.aload X8.here hexec rfl (hb hbytes d42) rfl rfl ?_
      refine XS.iloadN X8.here hexec rfl (hb hbytes d44) rfl ?_
      exact Steps.refl _)
    rw [n4]; exact hc
  obtain ⟨v11, T11, X11, E11, g11⟩ := X8.callS hexec (CodL.law l s.heap.size N) hown (wks W (staticW "java/lang/String" 47 CodL.yN)) (wk W CodL.tab) (W := 1) (Nat.le_of_ble_eq_true rfl) (Nat.le_of_ble_eq_true rfl) (Nat.le_refl _) (by show 0 + len + 0 ≤ len; omega) (g := (mkF m 45 #[.val (.ref a), .val (.ref b), .val (.int (Int32.ofNat o)), .val (.int (Int32.ofNat len)), .val .null, .val (.ref s.heap.size)] [.int (Int32.ofNat N.slots.size), .ref s.heap.size, .ref a])) rfl (by rw [hml]; rfl) c10 (argsL := [.ref s.heap.size, .int (Int32.ofNat N.slots.size)]) (rest := [.ref a]) rfl rfl (by show 2 * 0 + (1 + 0) ≤ _; decide) (hb hbytes d45) (⟨rfl, n1⟩)
  obtain ⟨rfl, q11⟩ := E11
  have hB11 := hB1.mv (X8.warmed.alike.symm.trans X11.warmed.alike) q11
  have c12 : Steps p.tables e below (s₁.setTop (entryFrame m #[.ref a, .ref b, .int (Int32.ofNat o), .int (Int32.ofNat len), .null] 6)) (T11.setTop (mkF m 48 #[.val (.ref a), .val (.ref b), .val (.int (Int32.ofNat o)), .val (.int (Int32.ofNat len)), .val .null, .val (.ref s.heap.size)] [.int 0, .ref a])) := g11
  obtain ⟨T13, X13, p13, bl13, sl13, st13⟩ := X11.finit hexec hown (wk W (.fieldLink "java/lang/String" 15 "java/lang/String" "coder" "B")) (Or.inr ⟨_, (wk W (.laysFinal "java/lang/String" "java/lang/String" "coder" "B"))⟩) (Or.inl ⟨rfl, hnm⟩) f2 (Or.inl rfl) hB11 (t := .byte) (by decide +kernel) rfl (g := (mkF m 48 #[.val (.ref a), .val (.ref b), .val (.int (Int32.ofNat o)), .val (.int (Int32.ofNat len)), .val .null, .val (.ref s.heap.size)] [.int 0, .ref a])) rfl (rest := []) rfl (hb hbytes d48)
  have c14 : Steps p.tables e below (s₁.setTop (entryFrame m #[.ref a, .ref b, .int (Int32.ofNat o), .int (Int32.ofNat len), .null] 6)) (T13.setTop (mkF m 54 #[.val (.ref a), .val (.ref b), .val (.int (Int32.ofNat o)), .val (.int (Int32.ofNat len)), .val .null, .val (.ref s.heap.size)] [.ref s.heap.size, .ref a])) := (c12.trans (st13 _ (Steps.refl _))).trans (by
    refine XS.aloadN X13.here hexec rfl (hb hbytes d51) rfl rfl ?_
    refine XS.aload X13.here hexec rfl (hb hbytes d52) rfl rfl ?_
    exact Steps.refl _)
  obtain ⟨T15, X15, p15, bl15, sl15, st15⟩ := X13.finit hexec hown (wk W (.fieldLink "java/lang/String" 9 "java/lang/String" "value" "[B")) (Or.inr ⟨_, (wk W (.laysFinal "java/lang/String" "java/lang/String" "value" "[B"))⟩) (Or.inl ⟨rfl, hnm⟩) f1 (Or.inl rfl) bl13 (t := (.array .byte)) (by decide +kernel) rfl (g := (mkF m 54 #[.val (.ref a), .val (.ref b), .val (.int (Int32.ofNat o)), .val (.int (Int32.ofNat len)), .val .null, .val (.ref s.heap.size)] [.ref s.heap.size, .ref a])) rfl (rest := []) rfl (hb hbytes d54)
  have c16 : Steps p.tables e below (s₁.setTop (entryFrame m #[.ref a, .ref b, .int (Int32.ofNat o), .int (Int32.ofNat len), .null] 6)) (T15.setTop (mkF m 57 #[.val (.ref a), .val (.ref b), .val (.int (Int32.ofNat o)), .val (.int (Int32.ofNat len)), .val .null, .val (.ref s.heap.size)] [])) := c14.trans (st15 _ (Steps.refl _))
  have ap := apart (Or.inr ⟨_, (wk W (.laysFinal "java/lang/String" "java/lang/String" "value" "[B"))⟩) (Or.inr ⟨_, (wk W (.laysFinal "java/lang/String" "java/lang/String" "coder" "B"))⟩) f1 f2 (t₁ := .array .byte) (t₂ := .byte) (by decide +kernel) (by decide +kernel) (by decide)
  have al := X8.warmed.alike.symm.trans X15.warmed.alike
  have n7 : T11.heap[s.heap.size]? = some N := by rw [q11]; exact n1.1
  exact ⟨T15, none, _, _, _, X15, by simp, rfl, by omega, (fun _ => rfl), ⟨rfl, _, N, bl15, ((Same.refl D _).set _ (by simp)).set _ (by simp), sl15, (Cell.slots_setSlot_ne _ ap).trans sl13, n1.keep al (p15.other hne (p13.other hne n7)), n2, by rw [al.findClass]; exact n3, n4, n5, fun y c h1 h2 => p15.other h1 (p13.other h1 (by rw [q11]; exact n6 y c h2)), by rw [p15.2.2, p13.2.2, q11]; exact z8⟩, fun fs hl => c16.trans (X15.returnOut hexec hret (hb hbytes d57) hl)⟩
end New4
namespace New1
def yN : MethodName := ⟨"java/lang/String", "<init>", "([C)V"⟩
abbrev yB : ByteArray := jdk_42_method_3_code
theorem d0 : decode yB 0 = .ok (.aload_n 0, 1) := by decide +kernel
theorem d1 : decode yB 1 = .ok (.aload_n 1, 1) := by decide +kernel
theorem d2 : decode yB 2 = .ok (.iconst 0, 1) := by decide +kernel
theorem d3 : decode yB 3 = .ok (.aload_n 1, 1) := by decide +kernel
theorem d4 : decode yB 4 = .ok (.arraylength, 1) := by decide +kernel
theorem d5 : decode yB 5 = .ok (.aconst_null, 1) := by decide +kernel
theorem d6 : decode yB 6 = .ok (.invokespecial 27, 3) := by decide +kernel
theorem d9 : decode yB 9 = .ok (.return_, 1) := by decide +kernel
def site : List Cond := [New4.tab] ++ initW "java/lang/String" 27 New4.yN
def tab : Cond := tabOf yN yB 2 none site
def P (a : Addr) (D : Cell) (fV fC : Field) (b : Addr) (A : Cell) (z : Int32) (args : Array Value) (s : State) : Prop := args = #[.ref a, .ref b] ∧ Blank "java/lang/String" a D s ∧ Found "java/lang/String" "value" "[B" fV s ∧ Found "java/lang/String" "coder" "B" fC s ∧ Ch b A s ∧ StaticIs s "java/lang/String" "COMPACT_STRINGS" "Z" (.int z) ∧ ¬ z = 0 ∧ 0 < A.slots.size ∧ A.slots.size ≤ 536870912 ∧ ∀ i, i < A.slots.size → ¬ 255 < cv A i
def E (a : Addr) (D : Cell) (fV fC : Field) (A : Cell) (r : Option Value) (s u : State) : Prop := Got a D fV fC A 0 A.slots.size r s u
/-- new String(chars), not empty, no char above 255: a Latin-1 String of their low bytes -/
theorem law (l : Launch) (a : Addr) (D : Cell) (fV fC : Field) (b : Addr) (A : Cell) (z : Int32) : Law l yN 2 1 3 52 yB 2 none site (P a D fV fC b A z) (E a D fV fC A) [⟨a, fC.slot⟩, ⟨a, fV.slot⟩] 1 A.slots.size := by
  refine Law.of_walk (plainFor_of_name (by decide +kernel)) (by decide +kernel) (by decide +kernel) (by decide) (fun _ _ h => by rw [h.1]; rfl) (fun _ U U' hal hh h => ⟨h.1, h.2.1.mv hal hh, h.2.2.1.al hal, h.2.2.2.1.al hal, h.2.2.2.2.1.mv hal hh, h.2.2.2.2.2.1.there hal hh, h.2.2.2.2.2.2⟩) (fun r U U' V V' h1 hal h2 h => Got.mv r U U' V V' h1 hal h2 h) ?_
  intro p e s m args below meth c s₁ X0 hexec hbytes hml hret hlk hnm hown hh0 W hP
  obtain ⟨rfl, hB, f1, f2, hA, s1, hz, l0, l2, hp⟩ := hP
  have c1 : Steps p.tables e below (s₁.setTop (entryFrame m #[.ref a, .ref b] 2)) (s₁.setTop (mkF m 0 #[.val (.ref a), .val (.ref b)] [])) := entry rfl
  have c2 : Steps p.tables e below (s₁.setTop (entryFrame m #[.ref a, .ref b] 2)) (s₁.setTop (mkF m 6 #[.val (.ref a), .val (.ref b)] [.null, .int (Int32.ofNat A.slots.size), .int 0, .ref b, .ref a])) := c1.trans (by
    refine XS.aloadN X0.here hexec rfl (hb hbytes d0) rfl rfl ?_
    refine XS.aloadN X0.here hexec rfl (hb hbytes d1) rfl rfl ?_
    refine iconstV X0.here hexec rfl 0 (hb hbytes d2) (by decide) ?_
    refine XS.aloadN X0.here hexec rfl (hb hbytes d3) rfl rfl ?_
    refine X0.alen hexec (hA.1.mv X0.warmed.alike hh0) rfl rfl (hb hbytes d4) ?_
    refine XS.aconstNull X0.here hexec rfl (hb hbytes d5) ?_
    exact Steps.refl _)
  obtain ⟨v3, T3, X3, E3, g3⟩ := X0.callN hexec (New4.law l a D fV fC b A z 0 A.slots.size) rfl hown (wks W (initW "java/lang/String" 27 New4.yN)) (W New4.tab (by simp only [site, List.mem_cons, List.mem_append, true_or, or_true])) (W := 0) (Nat.le_of_ble_eq_true rfl) (Nat.le_of_ble_eq_true rfl) (Nat.le_refl _) (by show 0 + A.slots.size ≤ A.slots.size; omega) (g := (mkF m 6 #[.val (.ref a), .val (.ref b)] [.null, .int (Int32.ofNat A.slots.size), .int (Int32.ofNat 0), .ref b, .ref a])) rfl (by rw [hml]; rfl) c2 (argsL := [.ref b, .int (Int32.ofNat 0), .int (Int32.ofNat A.slots.size), .null]) (rest := []) rfl rfl (by show 2 * 0 + 0 ≤ _; decide) (hb hbytes d6) (⟨rfl, hB.mv X0.warmed.alike hh0, f1.al X0.warmed.alike, f2.al X0.warmed.alike, hA.mv X0.warmed.alike hh0, s1.there X0.warmed.alike hh0, hz, l0, by omega, l2, fun i hi => by rw [Nat.zero_add]; exact hp i hi⟩)
  have e0 := Got.mv _ s₁ s _ _ hh0.symm (Vm.Alike.refl _) rfl E3
  obtain rfl := e0.1
  have c4 : Steps p.tables e below (s₁.setTop (entryFrame m #[.ref a, .ref b] 2)) (T3.setTop (mkF m 9 #[.val (.ref a), .val (.ref b)] [])) := g3
  exact ⟨T3, none, _, _, _, X3, by simp, rfl, by omega, (fun _ => rfl), e0, fun fs hl => c4.trans (X3.returnOut hexec hret (hb hbytes d9) hl)⟩
theorem pays {l : Launch} {R : Room} {p : Program} {e : Env} {below : List Frame} {s : State} {sargs : Array Value} {len W : Nat} (a : Addr) (D : Cell) (fV fC : Field) (b : Addr) (A : Cell) (z : Int32) (htab : tab.before sargs s = true) (hfr : 4 ≤ R.frames) (hlo : W + 65 ≤ R.locals) :
    Back l R p e below s sargs yN len W (fun A₁ a₁ => A₁.cells + 1 ≤ R.cells ∧ A₁.slots + A.slots.size ≤ R.slots ∧ P a D fV fC b A z a₁ A₁.U) (fun A₁ _ v₁ B₁ => E a D fV fC A v₁ A₁.U B₁.U ∧ B₁.locs = A₁.locs ++ [⟨a, fC.slot⟩, ⟨a, fV.slot⟩] ∧ B₁.cells = A₁.cells + 1 ∧ B₁.slots = A₁.slots + A.slots.size) :=
  (law l a D fV fC b A z).pays htab hfr (by omega)
end New1
end StrChars
namespace StrChars.Road
open Jvm Sem ClassFile Op Lib Jvm.Stand Jvm.Free Jvm.Free.XT
open Jvm.Lib.Cold (StaticIs)
abbrev ST : String := "java/lang/String"
/-- every table word that New1's law asks, flat -/
abbrev words : List Jvm.Cond := [.code New1.yN New1.yB 2 none, .initialized ST, .methodLink ST 27 New4.yN, .instanceMethod New4.yN,
  .code New4.yN New4.yB 6 none, .fieldLink ST 38 ST "COMPACT_STRINGS" "Z", .laysFinal ST ST "value" "[B", .fieldLink ST 9 ST "value" "[B", .laysFinal ST ST "coder" "B", .fieldLink ST 15 ST "coder" "B",
  .methodLink ST 1 Lib.objectInit, .instanceMethod Lib.objectInit, .code Lib.objectInit ⟨#[0xb1]⟩ 1 none, .methodLink ST 177 Cmp3.yN, .static Cmp3.yN, .methodLink ST 47 CodL.yN, .static CodL.yN,
  .code Cmp3.yN Cmp3.yB 6 (some (.array .byte)), .initialized U16, .arrayClass .byte, .methodLink U16 115 Cmp5.yN, .static Cmp5.yN, .code Cmp5.yN Cmp5.yB 7 (some .int), .code CodL.yN CodL.yB 2 (some .byte)]
theorem tab_of {a : Array Value} {s : State} (h : ∀ w ∈ words, w.before a s = true) : New1.tab.before a s = true := by
  have h5 : Cmp5.tab.before a s = true := unparts (wk h (.code Cmp5.yN Cmp5.yB 7 (some .int))) (wks h (.initialized Cmp5.yN.cls :: Cmp5.site))
  have hc : CodL.tab.before a s = true := unparts (wk h (.code CodL.yN CodL.yB 2 (some .byte))) (wks h (.initialized CodL.yN.cls :: CodL.site))
  have q5 : ∀ w ∈ Cmp5.tab :: words, w.before a s = true := fun w hw => (List.mem_cons.mp hw).elim (fun e => e ▸ h5) (h w)
  have h3 : Cmp3.tab.before a s = true := unparts (wk q5 (.code Cmp3.yN Cmp3.yB 6 (some (.array .byte)))) (wks q5 (.initialized Cmp3.yN.cls :: Cmp3.site))
  have q3 : ∀ w ∈ Cmp3.tab :: CodL.tab :: words, w.before a s = true := fun w hw => (List.mem_cons.mp hw).elim (fun e => e ▸ h3) fun hw => (List.mem_cons.mp hw).elim (fun e => e ▸ hc) (h w)
  have h4 : New4.tab.before a s = true := unparts (wk q3 (.code New4.yN New4.yB 6 none)) (wks q3 (.initialized New4.yN.cls :: New4.site))
  have q4 : ∀ w ∈ New4.tab :: words, w.before a s = true := fun w hw => (List.mem_cons.mp hw).elim (fun e => e ▸ h4) (h w)
  exact unparts (wk q4 (.code New1.yN New1.yB 2 none)) (wks q4 (.initialized New1.yN.cls :: New1.site))
/-- the words ride from the start Z to the walk's own state -/
theorem moved {Z s : State} {a0 args : Array Value} (hZ : Z.Warmed39 s.vm) (hw : ∀ d ∈ words, d.before a0 Z = true) : ∀ d ∈ words, d.before args s = true := fun d hd => by
  have q := hw d hd
  have t : ∀ d ∈ words, d = .arrayClass .byte ∨ (d.onTables && d.keepsFace) = true := by decide +kernel
  rcases t d hd with rfl | t
  · exact RoadKit.mvA hZ q
  · exact RoadKit.mv hZ q t
/-- WHAT COMES BACK, over the tables of the start Z: h the heap at the call, h' behind it -/
def Q (Z : State) (x : Addr) (A : Cell) (h : Heap) (v : Option Value) (h' : Heap) (L : List Loc) : Prop := v = none ∧ (∀ y ∈ L, y.base = x) ∧ RoadKit.Keep h h' [x] ∧ h'.size = h.size + 1 ∧ RoadKit.Exa Z h' x ST ∧ RoadKit.Fld Z h' x ST "value" "[B" (.ref h.size) ∧ RoadKit.Fld Z h' x ST "coder" "B" (.int 0) ∧
  (∃ V : Cell, RoadKit.Arr Z h' h.size V .byte ∧ V.vm = .none ∧ Z.vm.findClass "[B" = some V.cls ∧ V.slots.size = A.slots.size ∧ ∀ j, j < A.slots.size → V.slots[j]? = some (.int (lo8 (cv A j)))) ∧
  ∀ (O n d : String) (w : Value), RoadKit.Fld Z h x O n d w → RoadKit.slotOf Z O n d ≠ RoadKit.slotOf Z ST "value" "[B" → RoadKit.slotOf Z O n d ≠ RoadKit.slotOf Z ST "coder" "B" → RoadKit.Fld Z h' x O n d w
/-- **new String(chars) AT A CALL, IN THE ROAD'S FORM**: for specialBack behind newO: x the fresh String, b the char[] with the cell A -/
theorem back {p : Program} {l : Launch} {e : Env} {R : Room} {s : State} {args : Array Value} {below : List Frame} {len W : Nat} {Z : State} {a0 : Array Value} {h : Heap} (hZ : Z.Warmed39 s.vm) (hw : ∀ d ∈ words, d.before a0 Z = true) {kI : Nat} (wi : (Jvm.Cond.instantiable ST kI).before a0 Z = true)
    {x b : Addr} {A : Cell} {z : Int32} {v0 c0 : Value} (E : RoadKit.Exa Z h x ST) (V : RoadKit.Fld Z h x ST "value" "[B" v0) (C : RoadKit.Fld Z h x ST "coder" "B" c0) (K : RoadKit.Arr Z h b A .char) (hty : Typed .char A) (S : RoadKit.Sta Z h ST "COMPACT_STRINGS" "Z" (.int z)) (hz : ¬ z = 0)
    (l0 : 0 < A.slots.size) (l2 : A.slots.size ≤ 536870912) (hp : ∀ i, i < A.slots.size → ¬ 255 < cv A i) (hfr : 4 ≤ R.frames) (hlo : W + 65 ≤ R.locals) :
    Back l R p e below s args New1.yN len W (fun P a => a = #[.ref x, .ref b] ∧ P.U.heap = h ∧ P.cells + 1 ≤ R.cells ∧ P.slots + A.slots.size ≤ R.slots)
      (fun P _ v B => ∃ L, Q Z x A h v B.U.heap L ∧ B.locs = P.locs ++ L ∧ B.cells = P.cells + 1 ∧ B.slots = P.slots + A.slots.size) := by
  intro m meth c P g ig mk a X hg hsize hdg hW hn hp'
  obtain ⟨rfl, rfl, r1, r2⟩ := hp'
  have al : Z.vm.Alike P.U.vm := hZ.alike.trans X.warmed.alike
  obtain ⟨D, cfV, kV, iV, fV, hD, gV, stV, knV, obV, asV, slV⟩ := id V
  obtain ⟨D', cfC, kC, iC, fC, hD', gC, stC, -, -, asC, slC⟩ := id C
  cases hD.symm.trans hD'
  obtain ⟨D2, kD, e1, e2, e3, e4, e5⟩ := id E
  cases hD.symm.trans e1
  obtain ⟨c2, k2, i1, i2, i3, -⟩ := Cond.instantiable_spec wi
  cases e2.symm.trans i1
  cases e3.symm.trans i2
  obtain ⟨kU, u1, u2⟩ := al.2.2 _ _ e3
  have hB : Blank ST x D P.U := ⟨hD, ⟨knV, fun q hq => by rw [hq] at obV; cases obV⟩, by rw [al.findClass]; exact e2, kU, u1, by rw [u2]; exact i3, by rw [u2]; exact e5 i3⟩
  have F1 : Found ST "value" "[B" fV P.U := ⟨SBG.found_only al ⟨cfV, kV, iV, gV⟩, stV⟩
  have F2 : Found ST "coder" "B" fC P.U := ⟨SBG.found_only al ⟨cfC, kC, iC, gC⟩, stC⟩
  have hA : Ch b A P.U := ⟨⟨K.1, State.isArrayOf_alike al K.2.1, K.2.2, by omega⟩, hty⟩
  have hS : StaticIs P.U ST "COMPACT_STRINGS" "Z" (.int z) := by
    obtain ⟨cfS, iS, kS, fS, st, cS, t1, t2, t3, t4, t5, t6, t7⟩ := S
    exact StaticIs.there (s := { Z with heap := P.U.heap }) ⟨cfS, iS, kS, fS, st, cS, t1, t2, t3, t4, t5, (fun q => by rw [q] at t6; cases t6), t7⟩ al rfl
  obtain ⟨v, B, X', ⟨⟨hv, E', V', q1, q2, q3, q4, q5, q6, q7, q8, q9, q10, q11⟩, hl, hc, hs⟩, st⟩ := New1.pays x D fV fC b A z (tab_of (moved hZ hw)) hfr hlo m meth c P g ig mk _ X hg hsize hdg hW hn ⟨r1, r2, rfl, hB, F1, F2, hA, hS, hz, l0, l2, hp⟩
  have al' : Z.vm.Alike B.U.vm := hZ.alike.trans X'.warmed.alike
  have hsz : E'.slots.size = D.slots.size := by
    obtain ⟨-, -, -, kB, w1, w2, w3⟩ := q1
    obtain ⟨kB', y1, y2⟩ := al'.2.2 _ _ e3
    rw [q2.2.1] at w1
    cases w1.symm.trans y1
    rw [w3, e5 i3, y2]
  refine ⟨v, B, X', ⟨_, ⟨hv, ?_, ⟨by omega, fun y cy hy hn' => q10 y cy (by simpa using hn') hy, fun y cy hy => ?_⟩, q11, ⟨E', _, q1.1, by rw [q2.2.1]; exact e2, by rw [q2.2.1]; exact e3, by rw [q2.1]; exact obV, fun _ => by rw [hsz]; exact e5 i3⟩,
    ⟨E', cfV, kV, iV, fV, q1.1, gV, stV, by rw [q2.1]; exact knV, by rw [q2.1]; exact obV, by rw [q2.2.1]; exact asV, q3⟩, ⟨E', cfC, kC, iC, fC, q1.1, gC, stC, by rw [q2.1]; exact knV, by rw [q2.1]; exact obV, by rw [q2.2.1]; exact asC, q4⟩,
    ⟨V', ⟨q5.1, State.isArrayOf_alike al'.symm q5.2.1, q5.2.2.1⟩, q6, by rw [← al'.findClass]; exact q7, q8, fun j hj => by have := q9 j hj; rwa [Nat.zero_add] at this⟩, fun O n d w F n1 n2 => ?_⟩, hl, hc, hs⟩, st⟩
  · intro y hy
    simp only [List.mem_cons, List.not_mem_nil, or_false] at hy
    rcases hy with rfl | rfl <;> rfl
  · by_cases q : y = x
    · subst q
      cases hD.symm.trans hy
      exact ⟨E', q1.1, q2.2.1, q2.1, hsz⟩
    · exact ⟨cy, q10 y cy q hy, rfl, rfl, rfl⟩
  · obtain ⟨D3, cf, k, i, f, g1, g2, g3, g4, g5, g6, g7⟩ := F
    cases hD.symm.trans g1
    simp only [RoadKit.slotOf, g2, gV, gC, Option.map_some, Option.getD_some] at n1 n2
    exact ⟨E', cf, k, i, f, q1.1, g2, g3, by rw [q2.1]; exact g4, by rw [q2.1]; exact g5, by rw [q2.2.1]; exact g6, by rw [q2.2.2 f.slot (by simp [n1, n2])]; exact g7⟩
end StrChars.Road
namespace StrChars.Road
open Jvm Sem ClassFile Op Lib Jvm.Stand Jvm.Free Jvm.Free.XT
/-- WHAT COMES BACK, the byte[] as a list of values -/
def QA (Z : State) (x : Addr) (zn : Int32) (cs : List Int32) (h : Heap) (v : Option Value) (h' : Heap) (L : List Loc) : Prop := v = none ∧ (∀ y ∈ L, y.base = x) ∧ RoadKit.Keep h h' [x] ∧ h'.size = h.size + 1 ∧ RoadKit.Exa Z h' x ST ∧ RoadKit.Fld Z h' x ST "value" "[B" (.ref h.size) ∧ RoadKit.Fld Z h' x ST "coder" "B" (.int 0) ∧
  (∃ kb, Z.vm.findClass "[B" = some kb ∧ RoadKit.Arv Z h' h.size kb .byte zn (cs.map fun c => .int (lo8 c)) (.int 0)) ∧
  ∀ (O n d : String) (w : Value), RoadKit.Fld Z h x O n d w → RoadKit.slotOf Z O n d ≠ RoadKit.slotOf Z ST "value" "[B" → RoadKit.slotOf Z O n d ≠ RoadKit.slotOf Z ST "coder" "B" → RoadKit.Fld Z h' x O n d w
/-- **new String(chars) AT A CALL, THE ARRAYS AS LISTS**: the char[] at b holds cs, not empty, no char above 255 -/
theorem backArv {p : Program} {l : Launch} {e : Env} {R : Room} {s : State} {args : Array Value} {below : List Frame} {len W : Nat} {Z : State} {a0 : Array Value} {h : Heap} (hZ : Z.Warmed39 s.vm) (hw : ∀ d ∈ words, d.before a0 Z = true) {kI : Nat} (wi : (Jvm.Cond.instantiable ST kI).before a0 Z = true)
    {x b : Addr} {k : ClassId} {zn z : Int32} {cs : List Int32} {dv v0 c0 : Value} (E : RoadKit.Exa Z h x ST) (V : RoadKit.Fld Z h x ST "value" "[B" v0) (C : RoadKit.Fld Z h x ST "coder" "B" c0) (K : RoadKit.Arv Z h b k .char zn (cs.map Value.int) dv) (S : RoadKit.Sta Z h ST "COMPACT_STRINGS" "Z" (.int z)) (hz : ¬ z = 0)
    (hlen : zn.toNatClampNeg = cs.length) (h0 : 0 < cs.length) (hbig : cs.length ≤ 536870912) (hall : ∀ c ∈ cs, ¬ 255 < c) (hfr : 4 ≤ R.frames) (hlo : W + 65 ≤ R.locals) :
    Back l R p e below s args New1.yN len W (fun P a => a = #[.ref x, .ref b] ∧ P.U.heap = h ∧ P.cells + 1 ≤ R.cells ∧ P.slots + cs.length ≤ R.slots)
      (fun P _ v B => ∃ L, QA Z x zn cs h v B.U.heap L ∧ B.locs = P.locs ++ L ∧ B.cells = P.cells + 1 ∧ B.slots = P.slots + cs.length) := by
  obtain ⟨A, K1, K2, K3, K4, K5, K6⟩ := K
  have e : A.slots.size = cs.length := K3.trans hlen
  have hat : ∀ (i : Nat) (hi : i < cs.length), A.slots[i]? = some (.int cs[i]) := fun i hi => by rw [K5 i (by omega)]; simp [List.getD_eq_getElem?_getD, hi]
  have hcv : ∀ (i : Nat) (hi : i < cs.length), cv A i = cs[i] := fun i hi => by unfold cv; rw [hat i hi]
  have hty : Typed .char A := fun i v hv => by
    have hi : i < A.slots.size := (Array.getElem?_eq_some_iff.mp hv).1
    have q := K5 i hi
    rw [hv] at q
    rw [Option.some.inj q]
    exact K6 i hi
  refine Back.mono (back hZ hw wi E V C K1 hty S hz (by omega) (by omega) (fun i hi => by rw [hcv i (by omega)]; exact hall _ (List.getElem_mem _)) hfr hlo) (fun P a hp => ⟨hp.1, hp.2.1, hp.2.2.1, by rw [e]; exact hp.2.2.2⟩) (fun P a v B hp hq => ?_)
  obtain ⟨L, ⟨q1, q2, q3, q4, q5, q6, q7, ⟨V', v1, v2, v3, v4, v5⟩, q9⟩, hl, hc, hs⟩ := hq
  refine ⟨L, ⟨q1, q2, q3, q4, q5, q6, q7, ⟨V'.cls, v3, V', v1, rfl, by rw [v4, e, hlen], K4, fun i hi => ?_, fun i hi => ?_⟩, q9⟩, hl, hc, by rw [hs, e]⟩
  · have hi' : i < cs.length := by omega
    rw [v5 i (by omega), hcv i hi']; simp [List.getD_eq_getElem?_getD, hi']
  · have hi' : i < cs.length := by omega
    simp only [List.getD_eq_getElem?_getD, List.getElem?_map, List.getElem?_eq_getElem hi', Option.map_some, Option.getD_some]
    exact fits_lo8 _
end StrChars.Road
namespace StrChars.Road
open Jvm Sem ClassFile Op Lib Jvm.Stand Jvm.Free Jvm.Free.XT
/-- WHAT COMES BACK, in the writer's own shape -/
def QV (Z : State) (x : Addr) (N : Int32) (bs : List Int32) (h : Heap) (n0 : Nat) (v : Option Value) (h' : Heap) (L : List Loc) : Prop := v = none ∧ RoadKit.Fr n0 L ∧ RoadKit.Keep h h' [x] ∧ RoadKit.Exa Z h' x ST ∧ RoadKit.Fld Z h' x ST "coder" "B" (.int 0) ∧
  ∃ (t : Addr) (kb : ClassId), n0 ≤ t ∧ h.size ≤ t ∧ ¬ t = x ∧ RoadKit.Fld Z h' x ST "value" "[B" (.ref t) ∧ RoadKit.Arv Z h' t kb .byte N (bs.map Value.int) (.int 0)
/-- **new String(chars) AT A CALL, FOR THE WRITER**: a char[] of n known ints, each 0 to 255 -/
theorem backV {p : Program} {l : Launch} {e : Env} {R : Room} {s : State} {args : Array Value} {below : List Frame} {len W : Nat} {Z : State} {a0 : Array Value} {h : Heap} (hZ : Z.Warmed39 s.vm) (hw : ∀ d ∈ words, d.before a0 Z = true) {kI : Nat} (wi : (Jvm.Cond.instantiable ST kI).before a0 Z = true)
    {x b : Addr} {kC : ClassId} {cs bs : List Int32} {d v0 c0 : Value} {z N : Int32} {n n0 : Nat} (hx0 : n0 ≤ x) (hh0 : n0 ≤ h.size) (E : RoadKit.Exa Z h x ST) (V : RoadKit.Fld Z h x ST "value" "[B" v0) (C : RoadKit.Fld Z h x ST "coder" "B" c0) (K : RoadKit.Arv Z h b kC .char N (cs.map Value.int) d) (S : RoadKit.Sta Z h ST "COMPACT_STRINGS" "Z" (.int z)) (hz : ¬ z = 0)
    (hn : cs.length = n) (hN : N = Int32.ofNat n) (l0 : 0 < n) (l2 : n ≤ 4000) (hp : ∀ c ∈ cs, ¬ c < 0 ∧ ¬ (255 : Int32) < c) (hb : bs = cs.map (fun c => c.toInt8.toInt32)) (hfr : 4 ≤ R.frames) (hlo : W + 65 ≤ R.locals) :
    Back l R p e below s args (⟨"java/lang/String", "<init>", "([C)V"⟩ : MethodName) len W (fun P a => a = #[.ref x, .ref b] ∧ P.U.heap = h ∧ P.cells + 1 ≤ R.cells ∧ P.slots + n ≤ R.slots)
      (fun P _ v B => ∃ L, QV Z x N bs h n0 v B.U.heap L ∧ B.locs = P.locs ++ L ∧ B.cells = P.cells + 1 ∧ B.slots = P.slots + n) := by
  subst hn hN hb
  refine Back.mono (backArv hZ hw wi E V C K S hz (n32 (by omega)) l0 (by omega) (fun c hc => (hp c hc).2) hfr hlo) (fun P a hp => hp) (fun P a v B hp hq => ?_)
  obtain ⟨L, ⟨q1, q2, q3, q4, q5, q6, q7, ⟨kb, v1, v2⟩, q9⟩, hl, hc, hs⟩ := hq
  exact ⟨L, ⟨q1, fun y hy => by rw [q2 y hy]; exact hx0, q3, q5, q7, h.size, kb, hh0, Nat.le_refl _, Nat.ne_of_gt E.lt, q6, by rw [List.map_map]; exact v2⟩, hl, hc, hs⟩
end StrChars.Road
namespace StrChars
open Jvm Sem ClassFile Op Lib Jvm.Stand Jvm.Free.XT Jvm.Free.ALB Jvm.Free.JM Jvm.Free
open Jvm.Lib.Cold (StaticIs)
def hi8 (x : Int32) : Int32 := lo8 (x >>> ((8 : Int32) &&& 31))
end StrChars
namespace StrChars.Road
open Jvm Sem ClassFile Op Lib Jvm.Stand Jvm.Free Jvm.Free.XT
open Jvm.Lib.Cold (StaticIs)
/-- the bytes of the chars cs, low before high -/
def wideBytes : List Int32 → List Value
  | [] => []
  | c :: cs => .int (lo8 c) :: .int (hi8 c) :: wideBytes cs
/-- an array of N2 bytes vs codes the chars cs by the coder cd -/
def CodA (cs : List Int32) (cd N2 : Int32) (vs : List Value) : Prop := (cd = 0 ∧ N2 = Int32.ofNat cs.length ∧ vs = (cs.map fun c => Value.int (lo8 c)) ∧ ∀ c ∈ cs, ¬ 255 < c) ∨ (cd = 1 ∧ N2 = Int32.ofNat (2 * cs.length) ∧ vs = wideBytes cs ∧ ∃ c ∈ cs, 255 < c)
end StrChars.Road
namespace StrChars.Road
open Jvm Sem ClassFile Op Lib Jvm.Stand Jvm.Free Jvm.Free.XT
open Jvm.Lib.Cold (StaticIs)
/-- what backV says of its String, as the contracts of this text ask it: cs's low bytes, coder 0 -/
theorem codOf {cs : List Int32} {n : Nat} (hn : cs.length = n) (hb : ∀ c ∈ cs, ¬ 255 < c) : CodA cs 0 (Int32.ofNat n) ((cs.map lo8).map Value.int) := Or.inl ⟨rfl, by rw [hn], by simp [List.map_map, Function.comp_def], hb⟩
end StrChars.Road
end Jvm.Pilot.@@N@@
namespace Jvm.Pilot.@@N@@
open Jvm Jvm.ClassFile Sem Op Lib Jvm.Free Jvm.Stand Jvm.LawKit Jvm.RoadKit Bundle Jvm.Pilot.@@N@@.Jvm.D
theorem own_nb {v : Int32} (h : v = 0 ∨ v = 1) : narrow .boolean (.int v) = .int v := by rcases h with rfl | rfl <;> rfl
theorem own_i2c {x : Int32} (h0 : ¬ x < 0) (h1 : ¬ 65535 < x) : x.toUInt32.toUInt16.toUInt32.toInt32 = x := by
  have e0 : (0 : Int32).toInt = 0 := rfl
  have e1 : (65535 : Int32).toInt = 65535 := rfl
  rw [Int32.lt_iff_toInt_lt, e0] at h0
  rw [Int32.lt_iff_toInt_lt, e1] at h1
  apply Int32.toBitVec_inj.mp
  apply BitVec.eq_of_toNat_eq
  have e : x.toUInt32.toUInt16.toUInt32.toInt32.toBitVec.toNat = x.toUInt32.toUInt16.toUInt32.toNat := rfl
  rw [e, UInt16.toNat_toUInt32, UInt32.toNat_toUInt16]
  show x.toBitVec.toNat % 2 ^ 16 = _
  have q : x.toInt = x.toBitVec.toInt := rfl
  rw [q, BitVec.toInt_eq_toNat_cond] at h0 h1
  have := x.toBitVec.isLt
  split at h0 <;> omega
theorem own_and255 (x : Int32) : ¬ (x &&& 255) < 0 ∧ ¬ 255 < (x &&& 255) := by
  have h : (x &&& 255).toBitVec.toNat < 256 := by
    simp only [Int32.toBitVec_and, BitVec.toNat_and]
    exact Nat.lt_succ_of_le Nat.and_le_right
  have e0 : (0 : Int32).toInt = 0 := rfl
  have e1 : (255 : Int32).toInt = 255 := rfl
  rw [Int32.lt_iff_toInt_lt, Int32.lt_iff_toInt_lt, e0, e1]
  have q : (x &&& 255).toInt = (x &&& 255).toBitVec.toInt := rfl
  rw [q, BitVec.toInt_eq_toNat_cond]
  split <;> omega
/-- a char below 256 -/
def C8 (x : Int32) : Prop := ¬ x < 0 ∧ ¬ (255 : Int32) < x
theorem own_up1 {x : Int32} (h : C8 x) : ¬ x < 0 ∧ ¬ (65535 : Int32) < x := ⟨h.1, fun q => h.2 (by rw [Int32.lt_iff_toInt_lt] at q ⊢; have e1 : (65535 : Int32).toInt = 65535 := rfl; have e2 : (255 : Int32).toInt = 255 := rfl; omega)⟩
theorem own_nar {x : Int32} (h : C8 x) : nar .char x = x := own_i2c (own_up1 h).1 (own_up1 h).2
theorem own_c8m (x : Int32) : C8 ((x &&& 255).toUInt32.toUInt16.toUInt32.toInt32) := by rw [i2c_mask]; exact own_and255 x
theorem own_c8n {x : Int32} (h : C8 x) : C8 (nar .char x) := by rw [own_nar h]; exact h
theorem own_nc {v : Int32} (h : ¬ v < 0 ∧ ¬ 65535 < v) : narrow .char (.int v) = .int v := by
  show Value.int (v.toUInt32.toUInt16.toUInt32.toInt32) = .int v
  rw [own_i2c h.1 h.2]
theorem own_nref {t : FieldType} {w : Value} (h : w.isRef = true) : narrow t w = w := by rcases ref_cases h with rfl | ⟨a, rfl⟩ <;> cases t <;> rfl
theorem own_al0 {P : Int32 → Prop} : ∀ c ∈ ([] : List Int32), P c := fun _ h => nomatch h
theorem own_alS {P : Int32 → Prop} {a : Int32} {L : List Int32} (h : P a) (r : ∀ c ∈ L, P c) : ∀ c ∈ a :: L, P c := List.forall_mem_cons.mpr ⟨h, r⟩
theorem own_up (cs : List Int32) (h : ∀ c ∈ cs, ¬ c < 0 ∧ ¬ (255 : Int32) < c) : ∀ c ∈ cs, ¬ c < 0 ∧ ¬ (65535 : Int32) < c := fun c hc => own_up1 (h c hc)
/-- a flag r says P -/
abbrev TF (r : Int32) (P : Prop) : Prop := (r = 1 ∧ P) ∨ (r = 0 ∧ ¬ P)
theorem own_y {r : Int32} {P : Prop} (h : TF r P) (q : ¬ r = 0) : P := h.elim (fun z => z.2) (fun z => absurd z.1 q)
theorem own_n {r : Int32} {P : Prop} (h : TF r P) (q : r = 0) : ¬ P := h.elim (fun z => absurd (z.1.symm.trans q) (by decide)) (fun z => z.2)
theorem own_b {r : Int32} {P : Prop} (h : TF r P) : r = 0 ∨ r = 1 := h.elim (fun z => Or.inr z.1) (fun z => Or.inl z.1)
theorem own_is1 {r : Int32} {P : Prop} (h : TF r P) (q : P) : r = 1 := h.elim (fun z => z.1) (fun z => absurd q z.2)
theorem own_is0 {r : Int32} {P : Prop} (h : TF r P) (q : ¬ P) : r = 0 := h.elim (fun z => absurd z.2 q) (fun z => z.1)
theorem own_ofN {a : Nat} (h : a < 2147483648) : (Int32.ofNat a).toInt = a := Int32.toInt_ofNat_small h
theorem own_ofN_lt {a b : Nat} (ha : a < 2147483648) (hb : b < 2147483648) : Int32.ofNat a < Int32.ofNat b ↔ a < b := by
  rw [Int32.lt_iff_toInt_lt, own_ofN ha, own_ofN hb]; omega
theorem own_ofN_inj {a b : Nat} (ha : a < 2147483648) (hb : b < 2147483648) : Int32.ofNat a = Int32.ofNat b ↔ a = b := by
  rw [← Int32.toInt_inj, own_ofN ha, own_ofN hb]; omega
theorem own_mask31 (x : Int32) : ∃ a : Nat, a < 2147483648 ∧ x &&& 2147483647 = Int32.ofNat a := by
  have h : (x &&& 2147483647).toBitVec.toNat < 2147483648 := by
    simp only [Int32.toBitVec_and, BitVec.toNat_and]
    exact Nat.lt_succ_of_le Nat.and_le_right
  refine ⟨_, h, ?_⟩
  apply Int32.toBitVec_inj.mp
  show _ = BitVec.ofNat 32 _
  rw [BitVec.ofNat_toNat]; simp
theorem own_rem31 (x : Int32) {m : Nat} (h0 : 0 < m) (h1 : m < 2147483648) : ∃ a : Nat, a < m ∧ (x &&& 2147483647) % Int32.ofNat m = Int32.ofNat a := by
  obtain ⟨a, ha, e⟩ := own_mask31 x
  refine ⟨a % m, Nat.mod_lt _ h0, ?_⟩
  rw [e]
  apply Int32.toInt_inj.mp
  have q : a % m ≤ a := Nat.mod_le _ _
  rw [Int32.toInt_mod, own_ofN ha, own_ofN h1, own_ofN (by omega)]
  exact (Int.ofNat_tmod a m).symm
theorem own_b8 (x : Int32) : (x.toInt8.toInt32).toInt8.toInt32 = x.toInt8.toInt32 := by simp
/-- a Latin-1 String x of the chars cs, its bytes at t -/
def OStr (Z : State) (h : Heap) (x t : Addr) (kb : ClassId) (cs : List Int32) : Prop :=
  Exa Z h x "java/lang/String" ∧ Fld Z h x "java/lang/String" "value" "[B" (.ref t) ∧ Fld Z h x "java/lang/String" "coder" "B" (.int 0) ∧ Arv Z h t kb .byte (Int32.ofNat cs.length) ((cs.map (fun c => c.toInt8.toInt32)).map Value.int) (.int 0) ∧ (∀ c ∈ cs, ¬ c < 0 ∧ ¬ (255 : Int32) < c) ∧ cs.length ≤ 4000
theorem OStr.cod {Z : State} {h : Heap} {x t : Addr} {kb : ClassId} {cs : List Int32} (S : OStr Z h x t kb cs) : StrChars.Road.CodA cs 0 (Int32.ofNat cs.length) ((cs.map (fun c => c.toInt8.toInt32)).map Value.int) := StrChars.Road.codOf rfl (fun c hc => (S.2.2.2.2.1 c hc).2)
theorem own_tfv {v : Option Value} {P : Prop} (h : (v = some (.int 1) ∧ P) ∨ (v = some (.int 0) ∧ ¬ P)) : ∃ r : Int32, v = some (.int r) ∧ TF r P := h.elim (fun z => ⟨1, z.1, Or.inl ⟨rfl, z.2⟩⟩) (fun z => ⟨0, z.1, Or.inr ⟨rfl, z.2⟩⟩)
theorem own_tfeq {r v : Int32} {P : Prop} (h1 : TF r P) (h2 : TF v P) : r = v := h1.elim (fun z => z.1.trans (own_is1 h2 z.2).symm) (fun z => z.1.trans (own_is0 h2 z.2).symm)
theorem own_tfiff {r : Int32} {P Q : Prop} (h : TF r P) (i : P ↔ Q) : TF r Q := h.imp (fun z => ⟨z.1, i.mp z.2⟩) (fun z => ⟨z.1, fun q => z.2 (i.mpr q)⟩)
theorem own_ushr (x : Int32) {k : Nat} (hk : 0 < k ∧ k < 32) : ∃ a : Nat, a < 2147483648 ∧ (x.toUInt32 >>> (Int32.ofNat k &&& 31).toUInt32).toInt32 = Int32.ofNat a := by
  obtain ⟨h0, h1⟩ := hk
  refine ⟨x.toUInt32.toNat >>> k, ?_, ?_⟩
  · have := x.toUInt32.toNat_lt
    rw [Nat.shiftRight_eq_div_pow]
    have : 2 ^ 1 ≤ 2 ^ k := Nat.pow_le_pow_right (by decide) h0
    apply Nat.div_lt_of_lt_mul
    omega
  · have e : (Int32.ofNat k &&& 31).toUInt32 = UInt32.ofNat k := by
      have : k < 32 := h1
      have q : ∀ j : Fin 32, (Int32.ofNat j.val &&& 31).toUInt32 = UInt32.ofNat j.val := by decide
      exact q ⟨k, h1⟩
    rw [e]
    apply Int32.toBitVec_inj.mp
    apply BitVec.eq_of_toNat_eq
    show (x.toUInt32 >>> UInt32.ofNat k).toNat = (BitVec.ofNat 32 _).toNat
    rw [UInt32.toNat_shiftRight, BitVec.toNat_ofNat]
    have hlt : x.toUInt32.toNat >>> k < 2 ^ 32 := Nat.lt_of_le_of_lt (Nat.shiftRight_le _ _) x.toUInt32.toNat_lt
    rw [Nat.mod_eq_of_lt hlt]
    congr 1
    simp
    omega
theorem own_tfe {v : Option Value} {n : Nat} (h : v = some (.int (if n = 0 then 1 else 0))) : ∃ r : Int32, v = some (.int r) ∧ TF r (n = 0) := by
  by_cases q : n = 0
  · exact ⟨1, by rw [h, if_pos q], Or.inl ⟨rfl, q⟩⟩
  · exact ⟨0, by rw [h, if_neg q], Or.inr ⟨rfl, q⟩⟩
theorem own_m4 (x : Int32) : x &&& 3 = 0 ∨ x &&& 3 = 1 ∨ x &&& 3 = 2 ∨ x &&& 3 = 3 := by
  have h : (x &&& 3).toBitVec.toNat < 4 := by
    simp only [Int32.toBitVec_and, BitVec.toNat_and]
    exact Nat.lt_succ_of_le Nat.and_le_right
  have e : ∀ k : Nat, (x &&& 3).toBitVec.toNat = k → x &&& 3 = Int32.ofNat k := fun k hk => by
    apply Int32.toBitVec_inj.mp
    show _ = BitVec.ofNat 32 _
    rw [← hk, BitVec.ofNat_toNat]; simp
  have q : (x &&& 3).toBitVec.toNat = 0 ∨ (x &&& 3).toBitVec.toNat = 1 ∨ (x &&& 3).toBitVec.toNat = 2 ∨ (x &&& 3).toBitVec.toNat = 3 := by omega
  rcases q with q | q | q | q
  · exact Or.inl (e 0 q)
  · exact Or.inr (Or.inl (e 1 q))
  · exact Or.inr (Or.inr (Or.inl (e 2 q)))
  · exact Or.inr (Or.inr (Or.inr (e 3 q)))
theorem own_m3 (x : Int32) : (x &&& 3) % 3 = 0 ∨ (x &&& 3) % 3 = 1 ∨ (x &&& 3) % 3 = 2 := by
  rcases own_m4 x with q | q | q | q <;> rw [q] <;> decide
theorem own_idx {a m : Nat} (h : a < m) (hm : m < 2147483648) : ¬ Int32.ofNat a < 0 ∧ Int32.ofNat a < Int32.ofNat m := by
  have e0 : (0 : Int32).toInt = 0 := rfl
  rw [Int32.lt_iff_toInt_lt, Int32.lt_iff_toInt_lt, e0, own_ofN (by omega), own_ofN hm]; omega
theorem own_in_words : ∀ d ∈ StrChars.Road.words, d ∈ tables_1 := by decide +kernel
def QrmUs (Z : State) (u0 u1 u2 u3 u4 u5 u6 u7 u8 u9 u10 u11 u12 u13 u14 u15 u16 u17 u18 u19 u20 : Addr) (h0 : Heap) (n0 : Nat) (v : Option Value) (h : Heap) (L : List Loc) : Prop := ∃ (b : Addr) (k : ClassId), v = some (.ref b) ∧ Fr n0 L ∧ Keep h0 h [] ∧ h0.size ≤ b ∧ Arv Z h b k (.object "com/example/cabin_audio_policy/cabinaudiopolicy/AudioUsage") (21 : Int32) [.ref u0, .ref u1, .ref u2, .ref u3, .ref u4, .ref u5, .ref u6, .ref u7, .ref u8, .ref u9, .ref u10, .ref u11, .ref u12, .ref u13, .ref u14, .ref u15, .ref u16, .ref u17, .ref u18, .ref u19, .ref u20] .null

theorem d_method_2_code_0 : decode method_2_code 0 = .ok (.bipush 21, 2) := by decide +kernel
theorem d_method_2_code_2 : decode method_2_code 2 = .ok (.anewarray 7, 3) := by decide +kernel
theorem d_method_2_code_5 : decode method_2_code 5 = .ok (.dup, 1) := by decide +kernel
theorem d_method_2_code_6 : decode method_2_code 6 = .ok (.iconst 0, 1) := by decide +kernel
theorem d_method_2_code_7 : decode method_2_code 7 = .ok (.getstatic 9, 3) := by decide +kernel
theorem d_method_2_code_10 : decode method_2_code 10 = .ok (.aastore, 1) := by decide +kernel
theorem d_method_2_code_11 : decode method_2_code 11 = .ok (.dup, 1) := by decide +kernel
theorem d_method_2_code_12 : decode method_2_code 12 = .ok (.iconst 1, 1) := by decide +kernel
theorem d_method_2_code_13 : decode method_2_code 13 = .ok (.getstatic 13, 3) := by decide +kernel
theorem d_method_2_code_16 : decode method_2_code 16 = .ok (.aastore, 1) := by decide +kernel
theorem d_method_2_code_17 : decode method_2_code 17 = .ok (.dup, 1) := by decide +kernel
theorem d_method_2_code_18 : decode method_2_code 18 = .ok (.iconst 2, 1) := by decide +kernel
theorem d_method_2_code_19 : decode method_2_code 19 = .ok (.getstatic 16, 3) := by decide +kernel
theorem d_method_2_code_22 : decode method_2_code 22 = .ok (.aastore, 1) := by decide +kernel
theorem d_method_2_code_23 : decode method_2_code 23 = .ok (.dup, 1) := by decide +kernel
theorem d_method_2_code_24 : decode method_2_code 24 = .ok (.iconst 3, 1) := by decide +kernel
theorem d_method_2_code_25 : decode method_2_code 25 = .ok (.getstatic 19, 3) := by decide +kernel
theorem d_method_2_code_28 : decode method_2_code 28 = .ok (.aastore, 1) := by decide +kernel
theorem d_method_2_code_29 : decode method_2_code 29 = .ok (.dup, 1) := by decide +kernel
theorem d_method_2_code_30 : decode method_2_code 30 = .ok (.iconst 4, 1) := by decide +kernel
theorem d_method_2_code_31 : decode method_2_code 31 = .ok (.getstatic 22, 3) := by decide +kernel
theorem d_method_2_code_34 : decode method_2_code 34 = .ok (.aastore, 1) := by decide +kernel
theorem d_method_2_code_35 : decode method_2_code 35 = .ok (.dup, 1) := by decide +kernel
theorem d_method_2_code_36 : decode method_2_code 36 = .ok (.iconst 5, 1) := by decide +kernel
theorem d_method_2_code_37 : decode method_2_code 37 = .ok (.getstatic 25, 3) := by decide +kernel
theorem d_method_2_code_40 : decode method_2_code 40 = .ok (.aastore, 1) := by decide +kernel
theorem d_method_2_code_41 : decode method_2_code 41 = .ok (.dup, 1) := by decide +kernel
theorem d_method_2_code_42 : decode method_2_code 42 = .ok (.bipush 6, 2) := by decide +kernel
theorem d_method_2_code_44 : decode method_2_code 44 = .ok (.getstatic 28, 3) := by decide +kernel
theorem d_method_2_code_47 : decode method_2_code 47 = .ok (.aastore, 1) := by decide +kernel
theorem d_method_2_code_48 : decode method_2_code 48 = .ok (.dup, 1) := by decide +kernel
theorem d_method_2_code_49 : decode method_2_code 49 = .ok (.bipush 7, 2) := by decide +kernel
theorem d_method_2_code_51 : decode method_2_code 51 = .ok (.getstatic 31, 3) := by decide +kernel
theorem d_method_2_code_54 : decode method_2_code 54 = .ok (.aastore, 1) := by decide +kernel
theorem d_method_2_code_55 : decode method_2_code 55 = .ok (.dup, 1) := by decide +kernel
theorem d_method_2_code_56 : decode method_2_code 56 = .ok (.bipush 8, 2) := by decide +kernel
theorem d_method_2_code_58 : decode method_2_code 58 = .ok (.getstatic 34, 3) := by decide +kernel
theorem d_method_2_code_61 : decode method_2_code 61 = .ok (.aastore, 1) := by decide +kernel
theorem d_method_2_code_62 : decode method_2_code 62 = .ok (.dup, 1) := by decide +kernel
theorem d_method_2_code_63 : decode method_2_code 63 = .ok (.bipush 9, 2) := by decide +kernel
theorem d_method_2_code_65 : decode method_2_code 65 = .ok (.getstatic 37, 3) := by decide +kernel
theorem d_method_2_code_68 : decode method_2_code 68 = .ok (.aastore, 1) := by decide +kernel
theorem d_method_2_code_69 : decode method_2_code 69 = .ok (.dup, 1) := by decide +kernel
theorem d_method_2_code_70 : decode method_2_code 70 = .ok (.bipush 10, 2) := by decide +kernel
theorem d_method_2_code_72 : decode method_2_code 72 = .ok (.getstatic 40, 3) := by decide +kernel
theorem d_method_2_code_75 : decode method_2_code 75 = .ok (.aastore, 1) := by decide +kernel
theorem d_method_2_code_76 : decode method_2_code 76 = .ok (.dup, 1) := by decide +kernel
theorem d_method_2_code_77 : decode method_2_code 77 = .ok (.bipush 11, 2) := by decide +kernel
theorem d_method_2_code_79 : decode method_2_code 79 = .ok (.getstatic 43, 3) := by decide +kernel
theorem d_method_2_code_82 : decode method_2_code 82 = .ok (.aastore, 1) := by decide +kernel
theorem d_method_2_code_83 : decode method_2_code 83 = .ok (.dup, 1) := by decide +kernel
theorem d_method_2_code_84 : decode method_2_code 84 = .ok (.bipush 12, 2) := by decide +kernel
theorem d_method_2_code_86 : decode method_2_code 86 = .ok (.getstatic 46, 3) := by decide +kernel
theorem d_method_2_code_89 : decode method_2_code 89 = .ok (.aastore, 1) := by decide +kernel
theorem d_method_2_code_90 : decode method_2_code 90 = .ok (.dup, 1) := by decide +kernel
theorem d_method_2_code_91 : decode method_2_code 91 = .ok (.bipush 13, 2) := by decide +kernel
theorem d_method_2_code_93 : decode method_2_code 93 = .ok (.getstatic 49, 3) := by decide +kernel
theorem d_method_2_code_96 : decode method_2_code 96 = .ok (.aastore, 1) := by decide +kernel
theorem d_method_2_code_97 : decode method_2_code 97 = .ok (.dup, 1) := by decide +kernel
theorem d_method_2_code_98 : decode method_2_code 98 = .ok (.bipush 14, 2) := by decide +kernel
theorem d_method_2_code_100 : decode method_2_code 100 = .ok (.getstatic 52, 3) := by decide +kernel
theorem d_method_2_code_103 : decode method_2_code 103 = .ok (.aastore, 1) := by decide +kernel
theorem d_method_2_code_104 : decode method_2_code 104 = .ok (.dup, 1) := by decide +kernel
theorem d_method_2_code_105 : decode method_2_code 105 = .ok (.bipush 15, 2) := by decide +kernel
theorem d_method_2_code_107 : decode method_2_code 107 = .ok (.getstatic 55, 3) := by decide +kernel
theorem d_method_2_code_110 : decode method_2_code 110 = .ok (.aastore, 1) := by decide +kernel
theorem d_method_2_code_111 : decode method_2_code 111 = .ok (.dup, 1) := by decide +kernel
theorem d_method_2_code_112 : decode method_2_code 112 = .ok (.bipush 16, 2) := by decide +kernel
theorem d_method_2_code_114 : decode method_2_code 114 = .ok (.getstatic 58, 3) := by decide +kernel
theorem d_method_2_code_117 : decode method_2_code 117 = .ok (.aastore, 1) := by decide +kernel
theorem d_method_2_code_118 : decode method_2_code 118 = .ok (.dup, 1) := by decide +kernel
theorem d_method_2_code_119 : decode method_2_code 119 = .ok (.bipush 17, 2) := by decide +kernel
theorem d_method_2_code_121 : decode method_2_code 121 = .ok (.getstatic 61, 3) := by decide +kernel
theorem d_method_2_code_124 : decode method_2_code 124 = .ok (.aastore, 1) := by decide +kernel
theorem d_method_2_code_125 : decode method_2_code 125 = .ok (.dup, 1) := by decide +kernel
theorem d_method_2_code_126 : decode method_2_code 126 = .ok (.bipush 18, 2) := by decide +kernel
theorem d_method_2_code_128 : decode method_2_code 128 = .ok (.getstatic 64, 3) := by decide +kernel
theorem d_method_2_code_131 : decode method_2_code 131 = .ok (.aastore, 1) := by decide +kernel
theorem d_method_2_code_132 : decode method_2_code 132 = .ok (.dup, 1) := by decide +kernel
theorem d_method_2_code_133 : decode method_2_code 133 = .ok (.bipush 19, 2) := by decide +kernel
theorem d_method_2_code_135 : decode method_2_code 135 = .ok (.getstatic 67, 3) := by decide +kernel
theorem d_method_2_code_138 : decode method_2_code 138 = .ok (.aastore, 1) := by decide +kernel
theorem d_method_2_code_139 : decode method_2_code 139 = .ok (.dup, 1) := by decide +kernel
theorem d_method_2_code_140 : decode method_2_code 140 = .ok (.bipush 20, 2) := by decide +kernel
theorem d_method_2_code_142 : decode method_2_code 142 = .ok (.getstatic 70, 3) := by decide +kernel
theorem d_method_2_code_145 : decode method_2_code 145 = .ok (.aastore, 1) := by decide +kernel
theorem d_method_2_code_146 : decode method_2_code 146 = .ok (.areturn, 1) := by decide +kernel
theorem pn_com_example_cabin_audio_policy_cabinaudiopolicy_AudioAttributesOfPinLaw : plainName "com/example/cabin_audio_policy/cabinaudiopolicy/AudioAttributesOfPinLaw" = true := by first | (simp [plainName, overriddenIn]; done) | decide +kernel
theorem ef_rmUs (m : MethodId)  : entryFrame m #[] 0 = mkF m 0 #[] [] := by first | (simp [entryFrame, mkF, argsToLocals, Value.category]; done) | rfl
set_option maxRecDepth 65536 in
set_option maxHeartbeats 40000000 in
theorem rmUs (l : Launch) (Z : State) (a0 : Array Value) (hw : ∀ d ∈ tables_1, d.before a0 Z = true) (ws : List Jvm.Cond) (u0 u1 u2 u3 u4 u5 u6 u7 u8 u9 u10 u11 u12 u13 u14 u15 u16 u17 u18 u19 u20 : Addr) (h0 : Heap) (n0 : Nat) (Z0 : n0 ≤ h0.size) (su0 : Sta Z Z.heap "com/example/cabin_audio_policy/cabinaudiopolicy/AudioUsage" "UNKNOWN" "Lcom/example/cabin_audio_policy/cabinaudiopolicy/AudioUsage;" (.ref u0)) (xu0 : Exa Z Z.heap u0 "com/example/cabin_audio_policy/cabinaudiopolicy/AudioUsage") (su1 : Sta Z Z.heap "com/example/cabin_audio_policy/cabinaudiopolicy/AudioUsage" "MEDIA" "Lcom/example/cabin_audio_policy/cabinaudiopolicy/AudioUsage;" (.ref u1)) (xu1 : Exa Z Z.heap u1 "com/example/cabin_audio_policy/cabinaudiopolicy/AudioUsage") (su2 : Sta Z Z.heap "com/example/cabin_audio_policy/cabinaudiopolicy/AudioUsage" "GAME" "Lcom/example/cabin_audio_policy/cabinaudiopolicy/AudioUsage;" (.ref u2)) (xu2 : Exa Z Z.heap u2 "com/example/cabin_audio_policy/cabinaudiopolicy/AudioUsage") (su3 : Sta Z Z.heap "com/example/cabin_audio_policy/cabinaudiopolicy/AudioUsage" "ASSISTANCE_NAVIGATION_GUIDANCE" "Lcom/example/cabin_audio_policy/cabinaudiopolicy/AudioUsage;" (.ref u3)) (xu3 : Exa Z Z.heap u3 "com/example/cabin_audio_policy/cabinaudiopolicy/AudioUsage") (su4 : Sta Z Z.heap "com/example/cabin_audio_policy/cabinaudiopolicy/AudioUsage" "ASSISTANT" "Lcom/example/cabin_audio_policy/cabinaudiopolicy/AudioUsage;" (.ref u4)) (xu4 : Exa Z Z.heap u4 "com/example/cabin_audio_policy/cabinaudiopolicy/AudioUsage") (su5 : Sta Z Z.heap "com/example/cabin_audio_policy/cabinaudiopolicy/AudioUsage" "ASSISTANCE_ACCESSIBILITY" "Lcom/example/cabin_audio_policy/cabinaudiopolicy/AudioUsage;" (.ref u5)) (xu5 : Exa Z Z.heap u5 "com/example/cabin_audio_policy/cabinaudiopolicy/AudioUsage") (su6 : Sta Z Z.heap "com/example/cabin_audio_policy/cabinaudiopolicy/AudioUsage" "NOTIFICATION_TELEPHONY_RINGTONE" "Lcom/example/cabin_audio_policy/cabinaudiopolicy/AudioUsage;" (.ref u6)) (xu6 : Exa Z Z.heap u6 "com/example/cabin_audio_policy/cabinaudiopolicy/AudioUsage") (su7 : Sta Z Z.heap "com/example/cabin_audio_policy/cabinaudiopolicy/AudioUsage" "VOICE_COMMUNICATION" "Lcom/example/cabin_audio_policy/cabinaudiopolicy/AudioUsage;" (.ref u7)) (xu7 : Exa Z Z.heap u7 "com/example/cabin_audio_policy/cabinaudiopolicy/AudioUsage") (su8 : Sta Z Z.heap "com/example/cabin_audio_policy/cabinaudiopolicy/AudioUsage" "CALL_ASSISTANT" "Lcom/example/cabin_audio_policy/cabinaudiopolicy/AudioUsage;" (.ref u8)) (xu8 : Exa Z Z.heap u8 "com/example/cabin_audio_policy/cabinaudiopolicy/AudioUsage") (su9 : Sta Z Z.heap "com/example/cabin_audio_policy/cabinaudiopolicy/AudioUsage" "VOICE_COMMUNICATION_SIGNALLING" "Lcom/example/cabin_audio_policy/cabinaudiopolicy/AudioUsage;" (.ref u9)) (xu9 : Exa Z Z.heap u9 "com/example/cabin_audio_policy/cabinaudiopolicy/AudioUsage") (su10 : Sta Z Z.heap "com/example/cabin_audio_policy/cabinaudiopolicy/AudioUsage" "ALARM" "Lcom/example/cabin_audio_policy/cabinaudiopolicy/AudioUsage;" (.ref u10)) (xu10 : Exa Z Z.heap u10 "com/example/cabin_audio_policy/cabinaudiopolicy/AudioUsage") (su11 : Sta Z Z.heap "com/example/cabin_audio_policy/cabinaudiopolicy/AudioUsage" "NOTIFICATION" "Lcom/example/cabin_audio_policy/cabinaudiopolicy/AudioUsage;" (.ref u11)) (xu11 : Exa Z Z.heap u11 "com/example/cabin_audio_policy/cabinaudiopolicy/AudioUsage") (su12 : Sta Z Z.heap "com/example/cabin_audio_policy/cabinaudiopolicy/AudioUsage" "NOTIFICATION_EVENT" "Lcom/example/cabin_audio_policy/cabinaudiopolicy/AudioUsage;" (.ref u12)) (xu12 : Exa Z Z.heap u12 "com/example/cabin_audio_policy/cabinaudiopolicy/AudioUsage") (su13 : Sta Z Z.heap "com/example/cabin_audio_policy/cabinaudiopolicy/AudioUsage" "NOTIFICATION_COMMUNICATION_REQUEST" "Lcom/example/cabin_audio_policy/cabinaudiopolicy/AudioUsage;" (.ref u13)) (xu13 : Exa Z Z.heap u13 "com/example/cabin_audio_policy/cabinaudiopolicy/AudioUsage") (su14 : Sta Z Z.heap "com/example/cabin_audio_policy/cabinaudiopolicy/AudioUsage" "NOTIFICATION_COMMUNICATION_INSTANT" "Lcom/example/cabin_audio_policy/cabinaudiopolicy/AudioUsage;" (.ref u14)) (xu14 : Exa Z Z.heap u14 "com/example/cabin_audio_policy/cabinaudiopolicy/AudioUsage") (su15 : Sta Z Z.heap "com/example/cabin_audio_policy/cabinaudiopolicy/AudioUsage" "NOTIFICATION_COMMUNICATION_DELAYED" "Lcom/example/cabin_audio_policy/cabinaudiopolicy/AudioUsage;" (.ref u15)) (xu15 : Exa Z Z.heap u15 "com/example/cabin_audio_policy/cabinaudiopolicy/AudioUsage") (su16 : Sta Z Z.heap "com/example/cabin_audio_policy/cabinaudiopolicy/AudioUsage" "ASSISTANCE_SONIFICATION" "Lcom/example/cabin_audio_policy/cabinaudiopolicy/AudioUsage;" (.ref u16)) (xu16 : Exa Z Z.heap u16 "com/example/cabin_audio_policy/cabinaudiopolicy/AudioUsage") (su17 : Sta Z Z.heap "com/example/cabin_audio_policy/cabinaudiopolicy/AudioUsage" "EMERGENCY" "Lcom/example/cabin_audio_policy/cabinaudiopolicy/AudioUsage;" (.ref u17)) (xu17 : Exa Z Z.heap u17 "com/example/cabin_audio_policy/cabinaudiopolicy/AudioUsage") (su18 : Sta Z Z.heap "com/example/cabin_audio_policy/cabinaudiopolicy/AudioUsage" "SAFETY" "Lcom/example/cabin_audio_policy/cabinaudiopolicy/AudioUsage;" (.ref u18)) (xu18 : Exa Z Z.heap u18 "com/example/cabin_audio_policy/cabinaudiopolicy/AudioUsage") (su19 : Sta Z Z.heap "com/example/cabin_audio_policy/cabinaudiopolicy/AudioUsage" "VEHICLE_STATUS" "Lcom/example/cabin_audio_policy/cabinaudiopolicy/AudioUsage;" (.ref u19)) (xu19 : Exa Z Z.heap u19 "com/example/cabin_audio_policy/cabinaudiopolicy/AudioUsage") (su20 : Sta Z Z.heap "com/example/cabin_audio_policy/cabinaudiopolicy/AudioUsage" "ANNOUNCEMENT" "Lcom/example/cabin_audio_policy/cabinaudiopolicy/AudioUsage;" (.ref u20)) (xu20 : Exa Z Z.heap u20 "com/example/cabin_audio_policy/cabinaudiopolicy/AudioUsage") (X00 : Old Z n0 h0) :
    MetFree l (⟨"com/example/cabin_audio_policy/cabinaudiopolicy/AudioAttributesOfPinLaw", "usages", "()[Lcom/example/cabin_audio_policy/cabinaudiopolicy/AudioUsage;"⟩ : MethodName) (head1 (Jvm.Cond.code (⟨"com/example/cabin_audio_policy/cabinaudiopolicy/AudioAttributesOfPinLaw", "usages", "()[Lcom/example/cabin_audio_policy/cabinaudiopolicy/AudioUsage;"⟩ : MethodName) method_2_code 0 (some (.array (.object "com/example/cabin_audio_policy/cabinaudiopolicy/AudioUsage"))) :: ws) ({ frames := 0, cells := 1, slots := 21, locals := 0 } : Room)) (fun aa U => aa = #[] ∧ Z.Warmed39 U.vm ∧ U.heap = h0) (fun _ _ _ _ _ => True) (fun _ U o U' => ∃ v L, o = .returned v ∧ QrmUs Z u0 u1 u2 u3 u4 u5 u6 u7 u8 u9 u10 u11 u12 u13 u14 u15 u16 u17 u18 u19 u20 h0 n0 v U'.heap L ∧ FrameEnd U o U' L ({ frames := 0, cells := 1, slots := 21, locals := 0 } : Room).cells ({ frames := 0, cells := 1, slots := 21, locals := 0 } : Room).slots) := by
  refine MetFree.of_bodySF (plainFor_of_name pn_com_example_cabin_audio_policy_cabinaudiopolicy_AudioAttributesOfPinLaw) hisR ?_
  intro p e s m args below meth c s₁ Bd hml0 hP hK
  obtain ⟨rfl, hZ, hh⟩ := hP
  have hx := Bd.exec
  have hby := Bd.bytes
  have hml : c.maxLocals = 0 := hml0
  have hown : s.vm.findClass "com/example/cabin_audio_policy/cabinaudiopolicy/AudioAttributesOfPinLaw" = some m.cls := findClass_of_methodNamed Bd.named
  have hnm := (name_of_methodNamed Bd.named Bd.method).1
  have X0 : Stand p l e ({ frames := 0, cells := 1, slots := 21, locals := 0 } : Room) s m #[] below meth c s₁ [] 0 0 := Stand.of_body Bd
  have e0 : s₁.heap = h0 := by rw [← hh, Bd.state]; rfl
  have N0 := Fr.nil n0
  have K0 := Keep.refl h0 []
  obtain ⟨S0, hS0⟩ : ∃ z, z = s₁.setTop (entryFrame m #[] 0) := ⟨_, rfl⟩
  rw [← hS0]
  have c0 : Steps p.tables e below S0 (s₁.setTop (mkF m 0 #[] [])) := by
    rw [hS0]; exact castTop (ef_rmUs m ) (Steps.refl _)
  have c1 : Steps p.tables e below S0 (s₁.setTop (mkF m 2 #[] [(.int (21 : Int32))])) := c0.trans (by
    show Steps p.tables e below (s₁.setTop (mkF m 0 #[] [])) _
    refine XS.bipush X0.here hx rfl (hb hby d_method_2_code_0) ?_
    exact Steps.refl _)
  obtain ⟨T2, h2, k2, X2, e2, E2, A2, O2, st2⟩ := newR X0 hx hZ hown (hw _ (List.mem_of_getElem? (i := 4) rfl)) (hw _ (List.mem_of_getElem? (i := 5) rfl)) e0 (g := (mkF m 2 #[] [(.int (21 : Int32))])) rfl (hb hby d_method_2_code_2) rfl (by decide) (cap := 21) (by decide) (by decide) (by decide) (by decide)
  obtain ⟨b2, g2⟩ : ∃ z, z = h0.size := ⟨_, rfl⟩
  rw [← g2] at A2 st2
  have c3 : Steps p.tables e below S0 (T2.setTop (mkF m 5 #[] [(.ref b2)])) := c1.trans (st2 _ (Steps.refl _))
  have z2 : n0 ≤ h2.size := Nat.le_trans Z0 E2.1
  have K2 := K0.ext E2
  have V2 : Arv Z h2 b2 k2 (.object "com/example/cabin_audio_policy/cabinaudiopolicy/AudioUsage") (21 : Int32) [.null, .null, .null, .null, .null, .null, .null, .null, .null, .null, .null, .null, .null, .null, .null, .null, .null, .null, .null, .null, .null] .null := (Arv.new A2 (by decide)).pad (pad_rep [] .null 21)
  have lt_b2 : b2 < h2.size := V2.lt
  have c4 : Steps p.tables e below S0 (T2.setTop (mkF m 7 #[] [(.int (0 : Int32)), (.ref b2), (.ref b2)])) := c3.trans (by
    show Steps p.tables e below (T2.setTop (mkF m 5 #[] [(.ref b2)])) _
    refine XS.dup X2.here hx rfl (hb hby d_method_2_code_5) rfl rfl ?_
    show Steps p.tables e below (T2.setTop (mkF m 6 #[] [(.ref b2), (.ref b2)])) _
    refine XS.iconst X2.here hx rfl (hb hby d_method_2_code_6) ?_
    exact Steps.refl _)
  obtain ⟨T5, X5, e5, st5⟩ := getS2 X2 hx hZ hown (host := "") (Or.inl (hw _ (List.mem_of_getElem? (i := 6) rfl))) Via.refl e2 (su0.ext (X00.ext E2).2) (g := (mkF m 7 #[] [(.int (0 : Int32)), (.ref b2), (.ref b2)])) rfl (hb hby d_method_2_code_7)
  have c6 : Steps p.tables e below S0 (T5.setTop (mkF m 10 #[] [(.ref u0), (.int (0 : Int32)), (.ref b2), (.ref b2)])) := c4.trans (st5 _ (Steps.refl _))
  obtain ⟨cl7, Ar7, q7, S7, Nn7, Ha7, G7⟩ := id V2
  obtain ⟨T7, h7, X7, e7, W7, st7⟩ := stR X5 hx hZ e5 Ar7 (j := (0 : Int32)) (inb_of S7 ⟨by decide, by decide⟩) rfl (Sto.ofV Ar7 q7 O2 (Ins.self ((xu0.ext X00.2).ext E2))) (g := (mkF m 10 #[] [(.ref u0), (.int (0 : Int32)), (.ref b2), (.ref b2)])) rfl rfl (hb hby d_method_2_code_10)
  have V7 : Arv Z h7 b2 k2 (.object "com/example/cabin_audio_policy/cabinaudiopolicy/AudioUsage") (21 : Int32) [(.ref u0), .null, .null, .null, .null, .null, .null, .null, .null, .null, .null, .null, .null, .null, .null, .null, .null, .null, .null, .null, .null] .null := Arv.set Ar7 q7 S7 Nn7 Ha7 G7 rfl W7 0 rfl (Nat.le_of_ble_eq_true rfl)
  have c8 : Steps p.tables e below S0 (T7.setTop (mkF m 11 #[] [(.ref b2)])) := c6.trans (st7 _ (Steps.refl _))
  have N7 := Fr.snoc X7 N0 (Nat.le_trans Z0 (Nat.le_trans K0.1 (Nat.le_of_eq g2.symm)))
  have z7 : n0 ≤ h7.size := Nat.le_trans z2 (Keep.of_wr W7).1
  have K7 := K2.wr W7 (Or.inr (Nat.le_trans K0.1 (Nat.le_of_eq g2.symm)))
  have c9 : Steps p.tables e below S0 (T7.setTop (mkF m 13 #[] [(.int (1 : Int32)), (.ref b2), (.ref b2)])) := c8.trans (by
    show Steps p.tables e below (T7.setTop (mkF m 11 #[] [(.ref b2)])) _
    refine XS.dup X7.here hx rfl (hb hby d_method_2_code_11) rfl rfl ?_
    show Steps p.tables e below (T7.setTop (mkF m 12 #[] [(.ref b2), (.ref b2)])) _
    refine XS.iconst X7.here hx rfl (hb hby d_method_2_code_12) ?_
    exact Steps.refl _)
  obtain ⟨T10, X10, e10, st10⟩ := getS2 X7 hx hZ hown (host := "") (Or.inl (hw _ (List.mem_of_getElem? (i := 10) rfl))) Via.refl e7 (su1.ext ((X00.ext E2).wr W7 (Nat.le_trans Z0 (Nat.le_trans K0.1 (Nat.le_of_eq g2.symm)))).2) (g := (mkF m 13 #[] [(.int (1 : Int32)), (.ref b2), (.ref b2)])) rfl (hb hby d_method_2_code_13)
  have c11 : Steps p.tables e below S0 (T10.setTop (mkF m 16 #[] [(.ref u1), (.int (1 : Int32)), (.ref b2), (.ref b2)])) := c9.trans (st10 _ (Steps.refl _))
  obtain ⟨cl12, Ar12, q12, S12, Nn12, Ha12, G12⟩ := id V7
  obtain ⟨T12, h12, X12, e12, W12, st12⟩ := stR X10 hx hZ e10 Ar12 (j := (1 : Int32)) (inb_of S12 ⟨by decide, by decide⟩) rfl (Sto.ofV Ar12 q12 O2 (Ins.self (((xu1.ext X00.2).ext E2).wr W7))) (g := (mkF m 16 #[] [(.ref u1), (.int (1 : Int32)), (.ref b2), (.ref b2)])) rfl rfl (hb hby d_method_2_code_16)
  have V12 : Arv Z h12 b2 k2 (.object "com/example/cabin_audio_policy/cabinaudiopolicy/AudioUsage") (21 : Int32) [(.ref u0), (.ref u1), .null, .null, .null, .null, .null, .null, .null, .null, .null, .null, .null, .null, .null, .null, .null, .null, .null, .null, .null] .null := Arv.set Ar12 q12 S12 Nn12 Ha12 G12 rfl W12 1 rfl (Nat.le_of_ble_eq_true rfl)
  have c13 : Steps p.tables e below S0 (T12.setTop (mkF m 17 #[] [(.ref b2)])) := c11.trans (st12 _ (Steps.refl _))
  have N12 := Fr.snoc X12 N7 (Nat.le_trans Z0 (Nat.le_trans K0.1 (Nat.le_of_eq g2.symm)))
  have z12 : n0 ≤ h12.size := Nat.le_trans z7 (Keep.of_wr W12).1
  have K12 := K7.wr W12 (Or.inr (Nat.le_trans K0.1 (Nat.le_of_eq g2.symm)))
  have c14 : Steps p.tables e below S0 (T12.setTop (mkF m 19 #[] [(.int (2 : Int32)), (.ref b2), (.ref b2)])) := c13.trans (by
    show Steps p.tables e below (T12.setTop (mkF m 17 #[] [(.ref b2)])) _
    refine XS.dup X12.here hx rfl (hb hby d_method_2_code_17) rfl rfl ?_
    show Steps p.tables e below (T12.setTop (mkF m 18 #[] [(.ref b2), (.ref b2)])) _
    refine XS.iconst X12.here hx rfl (hb hby d_method_2_code_18) ?_
    exact Steps.refl _)
  obtain ⟨T15, X15, e15, st15⟩ := getS2 X12 hx hZ hown (host := "") (Or.inl (hw _ (List.mem_of_getElem? (i := 12) rfl))) Via.refl e12 (su2.ext (((X00.ext E2).wr W7 (Nat.le_trans Z0 (Nat.le_trans K0.1 (Nat.le_of_eq g2.symm)))).wr W12 (Nat.le_trans Z0 (Nat.le_trans K0.1 (Nat.le_of_eq g2.symm)))).2) (g := (mkF m 19 #[] [(.int (2 : Int32)), (.ref b2), (.ref b2)])) rfl (hb hby d_method_2_code_19)
  have c16 : Steps p.tables e below S0 (T15.setTop (mkF m 22 #[] [(.ref u2), (.int (2 : Int32)), (.ref b2), (.ref b2)])) := c14.trans (st15 _ (Steps.refl _))
  obtain ⟨cl17, Ar17, q17, S17, Nn17, Ha17, G17⟩ := id V12
  obtain ⟨T17, h17, X17, e17, W17, st17⟩ := stR X15 hx hZ e15 Ar17 (j := (2 : Int32)) (inb_of S17 ⟨by decide, by decide⟩) rfl (Sto.ofV Ar17 q17 O2 (Ins.self ((((xu2.ext X00.2).ext E2).wr W7).wr W12))) (g := (mkF m 22 #[] [(.ref u2), (.int (2 : Int32)), (.ref b2), (.ref b2)])) rfl rfl (hb hby d_method_2_code_22)
  have V17 : Arv Z h17 b2 k2 (.object "com/example/cabin_audio_policy/cabinaudiopolicy/AudioUsage") (21 : Int32) [(.ref u0), (.ref u1), (.ref u2), .null, .null, .null, .null, .null, .null, .null, .null, .null, .null, .null, .null, .null, .null, .null, .null, .null, .null] .null := Arv.set Ar17 q17 S17 Nn17 Ha17 G17 rfl W17 2 rfl (Nat.le_of_ble_eq_true rfl)
  have c18 : Steps p.tables e below S0 (T17.setTop (mkF m 23 #[] [(.ref b2)])) := c16.trans (st17 _ (Steps.refl _))
  have N17 := Fr.snoc X17 N12 (Nat.le_trans Z0 (Nat.le_trans K0.1 (Nat.le_of_eq g2.symm)))
  have z17 : n0 ≤ h17.size := Nat.le_trans z12 (Keep.of_wr W17).1
  have K17 := K12.wr W17 (Or.inr (Nat.le_trans K0.1 (Nat.le_of_eq g2.symm)))
  have c19 : Steps p.tables e below S0 (T17.setTop (mkF m 25 #[] [(.int (3 : Int32)), (.ref b2), (.ref b2)])) := c18.trans (by
    show Steps p.tables e below (T17.setTop (mkF m 23 #[] [(.ref b2)])) _
    refine XS.dup X17.here hx rfl (hb hby d_method_2_code_23) rfl rfl ?_
    show Steps p.tables e below (T17.setTop (mkF m 24 #[] [(.ref b2), (.ref b2)])) _
    refine XS.iconst X17.here hx rfl (hb hby d_method_2_code_24) ?_
    exact Steps.refl _)
  obtain ⟨T20, X20, e20, st20⟩ := getS2 X17 hx hZ hown (host := "") (Or.inl (hw _ (List.mem_of_getElem? (i := 14) rfl))) Via.refl e17 (su3.ext ((((X00.ext E2).wr W7 (Nat.le_trans Z0 (Nat.le_trans K0.1 (Nat.le_of_eq g2.symm)))).wr W12 (Nat.le_trans Z0 (Nat.le_trans K0.1 (Nat.le_of_eq g2.symm)))).wr W17 (Nat.le_trans Z0 (Nat.le_trans K0.1 (Nat.le_of_eq g2.symm)))).2) (g := (mkF m 25 #[] [(.int (3 : Int32)), (.ref b2), (.ref b2)])) rfl (hb hby d_method_2_code_25)
  have c21 : Steps p.tables e below S0 (T20.setTop (mkF m 28 #[] [(.ref u3), (.int (3 : Int32)), (.ref b2), (.ref b2)])) := c19.trans (st20 _ (Steps.refl _))
  obtain ⟨cl22, Ar22, q22, S22, Nn22, Ha22, G22⟩ := id V17
  obtain ⟨T22, h22, X22, e22, W22, st22⟩ := stR X20 hx hZ e20 Ar22 (j := (3 : Int32)) (inb_of S22 ⟨by decide, by decide⟩) rfl (Sto.ofV Ar22 q22 O2 (Ins.self (((((xu3.ext X00.2).ext E2).wr W7).wr W12).wr W17))) (g := (mkF m 28 #[] [(.ref u3), (.int (3 : Int32)), (.ref b2), (.ref b2)])) rfl rfl (hb hby d_method_2_code_28)
  have V22 : Arv Z h22 b2 k2 (.object "com/example/cabin_audio_policy/cabinaudiopolicy/AudioUsage") (21 : Int32) [(.ref u0), (.ref u1), (.ref u2), (.ref u3), .null, .null, .null, .null, .null, .null, .null, .null, .null, .null, .null, .null, .null, .null, .null, .null, .null] .null := Arv.set Ar22 q22 S22 Nn22 Ha22 G22 rfl W22 3 rfl (Nat.le_of_ble_eq_true rfl)
  have c23 : Steps p.tables e below S0 (T22.setTop (mkF m 29 #[] [(.ref b2)])) := c21.trans (st22 _ (Steps.refl _))
  have N22 := Fr.snoc X22 N17 (Nat.le_trans Z0 (Nat.le_trans K0.1 (Nat.le_of_eq g2.symm)))
  have z22 : n0 ≤ h22.size := Nat.le_trans z17 (Keep.of_wr W22).1
  have K22 := K17.wr W22 (Or.inr (Nat.le_trans K0.1 (Nat.le_of_eq g2.symm)))
  have c24 : Steps p.tables e below S0 (T22.setTop (mkF m 31 #[] [(.int (4 : Int32)), (.ref b2), (.ref b2)])) := c23.trans (by
    show Steps p.tables e below (T22.setTop (mkF m 29 #[] [(.ref b2)])) _
    refine XS.dup X22.here hx rfl (hb hby d_method_2_code_29) rfl rfl ?_
    show Steps p.tables e below (T22.setTop (mkF m 30 #[] [(.ref b2), (.ref b2)])) _
    refine XS.iconst X22.here hx rfl (hb hby d_method_2_code_30) ?_
    exact Steps.refl _)
  obtain ⟨T25, X25, e25, st25⟩ := getS2 X22 hx hZ hown (host := "") (Or.inl (hw _ (List.mem_of_getElem? (i := 16) rfl))) Via.refl e22 (su4.ext (((((X00.ext E2).wr W7 (Nat.le_trans Z0 (Nat.le_trans K0.1 (Nat.le_of_eq g2.symm)))).wr W12 (Nat.le_trans Z0 (Nat.le_trans K0.1 (Nat.le_of_eq g2.symm)))).wr W17 (Nat.le_trans Z0 (Nat.le_trans K0.1 (Nat.le_of_eq g2.symm)))).wr W22 (Nat.le_trans Z0 (Nat.le_trans K0.1 (Nat.le_of_eq g2.symm)))).2) (g := (mkF m 31 #[] [(.int (4 : Int32)), (.ref b2), (.ref b2)])) rfl (hb hby d_method_2_code_31)
  have c26 : Steps p.tables e below S0 (T25.setTop (mkF m 34 #[] [(.ref u4), (.int (4 : Int32)), (.ref b2), (.ref b2)])) := c24.trans (st25 _ (Steps.refl _))
  obtain ⟨cl27, Ar27, q27, S27, Nn27, Ha27, G27⟩ := id V22
  obtain ⟨T27, h27, X27, e27, W27, st27⟩ := stR X25 hx hZ e25 Ar27 (j := (4 : Int32)) (inb_of S27 ⟨by decide, by decide⟩) rfl (Sto.ofV Ar27 q27 O2 (Ins.self ((((((xu4.ext X00.2).ext E2).wr W7).wr W12).wr W17).wr W22))) (g := (mkF m 34 #[] [(.ref u4), (.int (4 : Int32)), (.ref b2), (.ref b2)])) rfl rfl (hb hby d_method_2_code_34)
  have V27 : Arv Z h27 b2 k2 (.object "com/example/cabin_audio_policy/cabinaudiopolicy/AudioUsage") (21 : Int32) [(.ref u0), (.ref u1), (.ref u2), (.ref u3), (.ref u4), .null, .null, .null, .null, .null, .null, .null, .null, .null, .null, .null, .null, .null, .null, .null, .null] .null := Arv.set Ar27 q27 S27 Nn27 Ha27 G27 rfl W27 4 rfl (Nat.le_of_ble_eq_true rfl)
  have c28 : Steps p.tables e below S0 (T27.setTop (mkF m 35 #[] [(.ref b2)])) := c26.trans (st27 _ (Steps.refl _))
  have N27 := Fr.snoc X27 N22 (Nat.le_trans Z0 (Nat.le_trans K0.1 (Nat.le_of_eq g2.symm)))
  have z27 : n0 ≤ h27.size := Nat.le_trans z22 (Keep.of_wr W27).1
  have K27 := K22.wr W27 (Or.inr (Nat.le_trans K0.1 (Nat.le_of_eq g2.symm)))
  have c29 : Steps p.tables e below S0 (T27.setTop (mkF m 37 #[] [(.int (5 : Int32)), (.ref b2), (.ref b2)])) := c28.trans (by
    show Steps p.tables e below (T27.setTop (mkF m 35 #[] [(.ref b2)])) _
    refine XS.dup X27.here hx rfl (hb hby d_method_2_code_35) rfl rfl ?_
    show Steps p.tables e below (T27.setTop (mkF m 36 #[] [(.ref b2), (.ref b2)])) _
    refine XS.iconst X27.here hx rfl (hb hby d_method_2_code_36) ?_
    exact Steps.refl _)
  obtain ⟨T30, X30, e30, st30⟩ := getS2 X27 hx hZ hown (host := "") (Or.inl (hw _ (List.mem_of_getElem? (i := 18) rfl))) Via.refl e27 (su5.ext ((((((X00.ext E2).wr W7 (Nat.le_trans Z0 (Nat.le_trans K0.1 (Nat.le_of_eq g2.symm)))).wr W12 (Nat.le_trans Z0 (Nat.le_trans K0.1 (Nat.le_of_eq g2.symm)))).wr W17 (Nat.le_trans Z0 (Nat.le_trans K0.1 (Nat.le_of_eq g2.symm)))).wr W22 (Nat.le_trans Z0 (Nat.le_trans K0.1 (Nat.le_of_eq g2.symm)))).wr W27 (Nat.le_trans Z0 (Nat.le_trans K0.1 (Nat.le_of_eq g2.symm)))).2) (g := (mkF m 37 #[] [(.int (5 : Int32)), (.ref b2), (.ref b2)])) rfl (hb hby d_method_2_code_37)
  have c31 : Steps p.tables e below S0 (T30.setTop (mkF m 40 #[] [(.ref u5), (.int (5 : Int32)), (.ref b2), (.ref b2)])) := c29.trans (st30 _ (Steps.refl _))
  obtain ⟨cl32, Ar32, q32, S32, Nn32, Ha32, G32⟩ := id V27
  obtain ⟨T32, h32, X32, e32, W32, st32⟩ := stR X30 hx hZ e30 Ar32 (j := (5 : Int32)) (inb_of S32 ⟨by decide, by decide⟩) rfl (Sto.ofV Ar32 q32 O2 (Ins.self (((((((xu5.ext X00.2).ext E2).wr W7).wr W12).wr W17).wr W22).wr W27))) (g := (mkF m 40 #[] [(.ref u5), (.int (5 : Int32)), (.ref b2), (.ref b2)])) rfl rfl (hb hby d_method_2_code_40)
  have V32 : Arv Z h32 b2 k2 (.object "com/example/cabin_audio_policy/cabinaudiopolicy/AudioUsage") (21 : Int32) [(.ref u0), (.ref u1), (.ref u2), (.ref u3), (.ref u4), (.ref u5), .null, .null, .null, .null, .null, .null, .null, .null, .null, .null, .null, .null, .null, .null, .null] .null := Arv.set Ar32 q32 S32 Nn32 Ha32 G32 rfl W32 5 rfl (Nat.le_of_ble_eq_true rfl)
  have c33 : Steps p.tables e below S0 (T32.setTop (mkF m 41 #[] [(.ref b2)])) := c31.trans (st32 _ (Steps.refl _))
  have N32 := Fr.snoc X32 N27 (Nat.le_trans Z0 (Nat.le_trans K0.1 (Nat.le_of_eq g2.symm)))
  have z32 : n0 ≤ h32.size := Nat.le_trans z27 (Keep.of_wr W32).1
  have K32 := K27.wr W32 (Or.inr (Nat.le_trans K0.1 (Nat.le_of_eq g2.symm)))
  have c34 : Steps p.tables e below S0 (T32.setTop (mkF m 44 #[] [(.int (6 : Int32)), (.ref b2), (.ref b2)])) := c33.trans (by
    show Steps p.tables e below (T32.setTop (mkF m 41 #[] [(.ref b2)])) _
    refine XS.dup X32.here hx rfl (hb hby d_method_2_code_41) rfl rfl ?_
    show Steps p.tables e below (T32.setTop (mkF m 42 #[] [(.ref b2), (.ref b2)])) _
    refine XS.bipush X32.here hx rfl (hb hby d_method_2_code_42) ?_
    exact Steps.refl _)
  obtain ⟨T35, X35, e35, st35⟩ := getS2 X32 hx hZ hown (host := "") (Or.inl (hw _ (List.mem_of_getElem? (i := 20) rfl))) Via.refl e32 (su6.ext (((((((X00.ext E2).wr W7 (Nat.le_trans Z0 (Nat.le_trans K0.1 (Nat.le_of_eq g2.symm)))).wr W12 (Nat.le_trans Z0 (Nat.le_trans K0.1 (Nat.le_of_eq g2.symm)))).wr W17 (Nat.le_trans Z0 (Nat.le_trans K0.1 (Nat.le_of_eq g2.symm)))).wr W22 (Nat.le_trans Z0 (Nat.le_trans K0.1 (Nat.le_of_eq g2.symm)))).wr W27 (Nat.le_trans Z0 (Nat.le_trans K0.1 (Nat.le_of_eq g2.symm)))).wr W32 (Nat.le_trans Z0 (Nat.le_trans K0.1 (Nat.le_of_eq g2.symm)))).2) (g := (mkF m 44 #[] [(.int (6 : Int32)), (.ref b2), (.ref b2)])) rfl (hb hby d_method_2_code_44)
  have c36 : Steps p.tables e below S0 (T35.setTop (mkF m 47 #[] [(.ref u6), (.int (6 : Int32)), (.ref b2), (.ref b2)])) := c34.trans (st35 _ (Steps.refl _))
  obtain ⟨cl37, Ar37, q37, S37, Nn37, Ha37, G37⟩ := id V32
  obtain ⟨T37, h37, X37, e37, W37, st37⟩ := stR X35 hx hZ e35 Ar37 (j := (6 : Int32)) (inb_of S37 ⟨by decide, by decide⟩) rfl (Sto.ofV Ar37 q37 O2 (Ins.self ((((((((xu6.ext X00.2).ext E2).wr W7).wr W12).wr W17).wr W22).wr W27).wr W32))) (g := (mkF m 47 #[] [(.ref u6), (.int (6 : Int32)), (.ref b2), (.ref b2)])) rfl rfl (hb hby d_method_2_code_47)
  have V37 : Arv Z h37 b2 k2 (.object "com/example/cabin_audio_policy/cabinaudiopolicy/AudioUsage") (21 : Int32) [(.ref u0), (.ref u1), (.ref u2), (.ref u3), (.ref u4), (.ref u5), (.ref u6), .null, .null, .null, .null, .null, .null, .null, .null, .null, .null, .null, .null, .null, .null] .null := Arv.set Ar37 q37 S37 Nn37 Ha37 G37 rfl W37 6 rfl (Nat.le_of_ble_eq_true rfl)
  have c38 : Steps p.tables e below S0 (T37.setTop (mkF m 48 #[] [(.ref b2)])) := c36.trans (st37 _ (Steps.refl _))
  have N37 := Fr.snoc X37 N32 (Nat.le_trans Z0 (Nat.le_trans K0.1 (Nat.le_of_eq g2.symm)))
  have z37 : n0 ≤ h37.size := Nat.le_trans z32 (Keep.of_wr W37).1
  have K37 := K32.wr W37 (Or.inr (Nat.le_trans K0.1 (Nat.le_of_eq g2.symm)))
  have c39 : Steps p.tables e below S0 (T37.setTop (mkF m 51 #[] [(.int (7 : Int32)), (.ref b2), (.ref b2)])) := c38.trans (by
    show Steps p.tables e below (T37.setTop (mkF m 48 #[] [(.ref b2)])) _
    refine XS.dup X37.here hx rfl (hb hby d_method_2_code_48) rfl rfl ?_
    show Steps p.tables e below (T37.setTop (mkF m 49 #[] [(.ref b2), (.ref b2)])) _
    refine XS.bipush X37.here hx rfl (hb hby d_method_2_code_49) ?_
    exact Steps.refl _)
  obtain ⟨T40, X40, e40, st40⟩ := getS2 X37 hx hZ hown (host := "") (Or.inl (hw _ (List.mem_of_getElem? (i := 22) rfl))) Via.refl e37 (su7.ext ((((((((X00.ext E2).wr W7 (Nat.le_trans Z0 (Nat.le_trans K0.1 (Nat.le_of_eq g2.symm)))).wr W12 (Nat.le_trans Z0 (Nat.le_trans K0.1 (Nat.le_of_eq g2.symm)))).wr W17 (Nat.le_trans Z0 (Nat.le_trans K0.1 (Nat.le_of_eq g2.symm)))).wr W22 (Nat.le_trans Z0 (Nat.le_trans K0.1 (Nat.le_of_eq g2.symm)))).wr W27 (Nat.le_trans Z0 (Nat.le_trans K0.1 (Nat.le_of_eq g2.symm)))).wr W32 (Nat.le_trans Z0 (Nat.le_trans K0.1 (Nat.le_of_eq g2.symm)))).wr W37 (Nat.le_trans Z0 (Nat.le_trans K0.1 (Nat.le_of_eq g2.symm)))).2) (g := (mkF m 51 #[] [(.int (7 : Int32)), (.ref b2), (.ref b2)])) rfl (hb hby d_method_2_code_51)
  have c41 : Steps p.tables e below S0 (T40.setTop (mkF m 54 #[] [(.ref u7), (.int (7 : Int32)), (.ref b2), (.ref b2)])) := c39.trans (st40 _ (Steps.refl _))
  obtain ⟨cl42, Ar42, q42, S42, Nn42, Ha42, G42⟩ := id V37
  obtain ⟨T42, h42, X42, e42, W42, st42⟩ := stR X40 hx hZ e40 Ar42 (j := (7 : Int32)) (inb_of S42 ⟨by decide, by decide⟩) rfl (Sto.ofV Ar42 q42 O2 (Ins.self (((((((((xu7.ext X00.2).ext E2).wr W7).wr W12).wr W17).wr W22).wr W27).wr W32).wr W37))) (g := (mkF m 54 #[] [(.ref u7), (.int (7 : Int32)), (.ref b2), (.ref b2)])) rfl rfl (hb hby d_method_2_code_54)
  have V42 : Arv Z h42 b2 k2 (.object "com/example/cabin_audio_policy/cabinaudiopolicy/AudioUsage") (21 : Int32) [(.ref u0), (.ref u1), (.ref u2), (.ref u3), (.ref u4), (.ref u5), (.ref u6), (.ref u7), .null, .null, .null, .null, .null, .null, .null, .null, .null, .null, .null, .null, .null] .null := Arv.set Ar42 q42 S42 Nn42 Ha42 G42 rfl W42 7 rfl (Nat.le_of_ble_eq_true rfl)
  have c43 : Steps p.tables e below S0 (T42.setTop (mkF m 55 #[] [(.ref b2)])) := c41.trans (st42 _ (Steps.refl _))
  have N42 := Fr.snoc X42 N37 (Nat.le_trans Z0 (Nat.le_trans K0.1 (Nat.le_of_eq g2.symm)))
  have z42 : n0 ≤ h42.size := Nat.le_trans z37 (Keep.of_wr W42).1
  have K42 := K37.wr W42 (Or.inr (Nat.le_trans K0.1 (Nat.le_of_eq g2.symm)))
  have c44 : Steps p.tables e below S0 (T42.setTop (mkF m 58 #[] [(.int (8 : Int32)), (.ref b2), (.ref b2)])) := c43.trans (by
    show Steps p.tables e below (T42.setTop (mkF m 55 #[] [(.ref b2)])) _
    refine XS.dup X42.here hx rfl (hb hby d_method_2_code_55) rfl rfl ?_
    show Steps p.tables e below (T42.setTop (mkF m 56 #[] [(.ref b2), (.ref b2)])) _
    refine XS.bipush X42.here hx rfl (hb hby d_method_2_code_56) ?_
    exact Steps.refl _)
  obtain ⟨T45, X45, e45, st45⟩ := getS2 X42 hx hZ hown (host := "") (Or.inl (hw _ (List.mem_of_getElem? (i := 24) rfl))) Via.refl e42 (su8.ext (((((((((X00.ext E2).wr W7 (Nat.le_trans Z0 (Nat.le_trans K0.1 (Nat.le_of_eq g2.symm)))).wr W12 (Nat.le_trans Z0 (Nat.le_trans K0.1 (Nat.le_of_eq g2.symm)))).wr W17 (Nat.le_trans Z0 (Nat.le_trans K0.1 (Nat.le_of_eq g2.symm)))).wr W22 (Nat.le_trans Z0 (Nat.le_trans K0.1 (Nat.le_of_eq g2.symm)))).wr W27 (Nat.le_trans Z0 (Nat.le_trans K0.1 (Nat.le_of_eq g2.symm)))).wr W32 (Nat.le_trans Z0 (Nat.le_trans K0.1 (Nat.le_of_eq g2.symm)))).wr W37 (Nat.le_trans Z0 (Nat.le_trans K0.1 (Nat.le_of_eq g2.symm)))).wr W42 (Nat.le_trans Z0 (Nat.le_trans K0.1 (Nat.le_of_eq g2.symm)))).2) (g := (mkF m 58 #[] [(.int (8 : Int32)), (.ref b2), (.ref b2)])) rfl (hb hby d_method_2_code_58)
  have c46 : Steps p.tables e below S0 (T45.setTop (mkF m 61 #[] [(.ref u8), (.int (8 : Int32)), (.ref b2), (.ref b2)])) := c44.trans (st45 _ (Steps.refl _))
  obtain ⟨cl47, Ar47, q47, S47, Nn47, Ha47, G47⟩ := id V42
  obtain ⟨T47, h47, X47, e47, W47, st47⟩ := stR X45 hx hZ e45 Ar47 (j := (8 : Int32)) (inb_of S47 ⟨by decide, by decide⟩) rfl (Sto.ofV Ar47 q47 O2 (Ins.self ((((((((((xu8.ext X00.2).ext E2).wr W7).wr W12).wr W17).wr W22).wr W27).wr W32).wr W37).wr W42))) (g := (mkF m 61 #[] [(.ref u8), (.int (8 : Int32)), (.ref b2), (.ref b2)])) rfl rfl (hb hby d_method_2_code_61)
  have V47 : Arv Z h47 b2 k2 (.object "com/example/cabin_audio_policy/cabinaudiopolicy/AudioUsage") (21 : Int32) [(.ref u0), (.ref u1), (.ref u2), (.ref u3), (.ref u4), (.ref u5), (.ref u6), (.ref u7), (.ref u8), .null, .null, .null, .null, .null, .null, .null, .null, .null, .null, .null, .null] .null := Arv.set Ar47 q47 S47 Nn47 Ha47 G47 rfl W47 8 rfl (Nat.le_of_ble_eq_true rfl)
  have c48 : Steps p.tables e below S0 (T47.setTop (mkF m 62 #[] [(.ref b2)])) := c46.trans (st47 _ (Steps.refl _))
  have N47 := Fr.snoc X47 N42 (Nat.le_trans Z0 (Nat.le_trans K0.1 (Nat.le_of_eq g2.symm)))
  have z47 : n0 ≤ h47.size := Nat.le_trans z42 (Keep.of_wr W47).1
  have K47 := K42.wr W47 (Or.inr (Nat.le_trans K0.1 (Nat.le_of_eq g2.symm)))
  have c49 : Steps p.tables e below S0 (T47.setTop (mkF m 65 #[] [(.int (9 : Int32)), (.ref b2), (.ref b2)])) := c48.trans (by
    show Steps p.tables e below (T47.setTop (mkF m 62 #[] [(.ref b2)])) _
    refine XS.dup X47.here hx rfl (hb hby d_method_2_code_62) rfl rfl ?_
    show Steps p.tables e below (T47.setTop (mkF m 63 #[] [(.ref b2), (.ref b2)])) _
    refine XS.bipush X47.here hx rfl (hb hby d_method_2_code_63) ?_
    exact Steps.refl _)
  obtain ⟨T50, X50, e50, st50⟩ := getS2 X47 hx hZ hown (host := "") (Or.inl (hw _ (List.mem_of_getElem? (i := 26) rfl))) Via.refl e47 (su9.ext ((((((((((X00.ext E2).wr W7 (Nat.le_trans Z0 (Nat.le_trans K0.1 (Nat.le_of_eq g2.symm)))).wr W12 (Nat.le_trans Z0 (Nat.le_trans K0.1 (Nat.le_of_eq g2.symm)))).wr W17 (Nat.le_trans Z0 (Nat.le_trans K0.1 (Nat.le_of_eq g2.symm)))).wr W22 (Nat.le_trans Z0 (Nat.le_trans K0.1 (Nat.le_of_eq g2.symm)))).wr W27 (Nat.le_trans Z0 (Nat.le_trans K0.1 (Nat.le_of_eq g2.symm)))).wr W32 (Nat.le_trans Z0 (Nat.le_trans K0.1 (Nat.le_of_eq g2.symm)))).wr W37 (Nat.le_trans Z0 (Nat.le_trans K0.1 (Nat.le_of_eq g2.symm)))).wr W42 (Nat.le_trans Z0 (Nat.le_trans K0.1 (Nat.le_of_eq g2.symm)))).wr W47 (Nat.le_trans Z0 (Nat.le_trans K0.1 (Nat.le_of_eq g2.symm)))).2) (g := (mkF m 65 #[] [(.int (9 : Int32)), (.ref b2), (.ref b2)])) rfl (hb hby d_method_2_code_65)
  have c51 : Steps p.tables e below S0 (T50.setTop (mkF m 68 #[] [(.ref u9), (.int (9 : Int32)), (.ref b2), (.ref b2)])) := c49.trans (st50 _ (Steps.refl _))
  obtain ⟨cl52, Ar52, q52, S52, Nn52, Ha52, G52⟩ := id V47
  obtain ⟨T52, h52, X52, e52, W52, st52⟩ := stR X50 hx hZ e50 Ar52 (j := (9 : Int32)) (inb_of S52 ⟨by decide, by decide⟩) rfl (Sto.ofV Ar52 q52 O2 (Ins.self (((((((((((xu9.ext X00.2).ext E2).wr W7).wr W12).wr W17).wr W22).wr W27).wr W32).wr W37).wr W42).wr W47))) (g := (mkF m 68 #[] [(.ref u9), (.int (9 : Int32)), (.ref b2), (.ref b2)])) rfl rfl (hb hby d_method_2_code_68)
  have V52 : Arv Z h52 b2 k2 (.object "com/example/cabin_audio_policy/cabinaudiopolicy/AudioUsage") (21 : Int32) [(.ref u0), (.ref u1), (.ref u2), (.ref u3), (.ref u4), (.ref u5), (.ref u6), (.ref u7), (.ref u8), (.ref u9), .null, .null, .null, .null, .null, .null, .null, .null, .null, .null, .null] .null := Arv.set Ar52 q52 S52 Nn52 Ha52 G52 rfl W52 9 rfl (Nat.le_of_ble_eq_true rfl)
  have c53 : Steps p.tables e below S0 (T52.setTop (mkF m 69 #[] [(.ref b2)])) := c51.trans (st52 _ (Steps.refl _))
  have N52 := Fr.snoc X52 N47 (Nat.le_trans Z0 (Nat.le_trans K0.1 (Nat.le_of_eq g2.symm)))
  have z52 : n0 ≤ h52.size := Nat.le_trans z47 (Keep.of_wr W52).1
  have K52 := K47.wr W52 (Or.inr (Nat.le_trans K0.1 (Nat.le_of_eq g2.symm)))
  have c54 : Steps p.tables e below S0 (T52.setTop (mkF m 72 #[] [(.int (10 : Int32)), (.ref b2), (.ref b2)])) := c53.trans (by
    show Steps p.tables e below (T52.setTop (mkF m 69 #[] [(.ref b2)])) _
    refine XS.dup X52.here hx rfl (hb hby d_method_2_code_69) rfl rfl ?_
    show Steps p.tables e below (T52.setTop (mkF m 70 #[] [(.ref b2), (.ref b2)])) _
    refine XS.bipush X52.here hx rfl (hb hby d_method_2_code_70) ?_
    exact Steps.refl _)
  obtain ⟨T55, X55, e55, st55⟩ := getS2 X52 hx hZ hown (host := "") (Or.inl (hw _ (List.mem_of_getElem? (i := 28) rfl))) Via.refl e52 (su10.ext (((((((((((X00.ext E2).wr W7 (Nat.le_trans Z0 (Nat.le_trans K0.1 (Nat.le_of_eq g2.symm)))).wr W12 (Nat.le_trans Z0 (Nat.le_trans K0.1 (Nat.le_of_eq g2.symm)))).wr W17 (Nat.le_trans Z0 (Nat.le_trans K0.1 (Nat.le_of_eq g2.symm)))).wr W22 (Nat.le_trans Z0 (Nat.le_trans K0.1 (Nat.le_of_eq g2.symm)))).wr W27 (Nat.le_trans Z0 (Nat.le_trans K0.1 (Nat.le_of_eq g2.symm)))).wr W32 (Nat.le_trans Z0 (Nat.le_trans K0.1 (Nat.le_of_eq g2.symm)))).wr W37 (Nat.le_trans Z0 (Nat.le_trans K0.1 (Nat.le_of_eq g2.symm)))).wr W42 (Nat.le_trans Z0 (Nat.le_trans K0.1 (Nat.le_of_eq g2.symm)))).wr W47 (Nat.le_trans Z0 (Nat.le_trans K0.1 (Nat.le_of_eq g2.symm)))).wr W52 (Nat.le_trans Z0 (Nat.le_trans K0.1 (Nat.le_of_eq g2.symm)))).2) (g := (mkF m 72 #[] [(.int (10 : Int32)), (.ref b2), (.ref b2)])) rfl (hb hby d_method_2_code_72)
  have c56 : Steps p.tables e below S0 (T55.setTop (mkF m 75 #[] [(.ref u10), (.int (10 : Int32)), (.ref b2), (.ref b2)])) := c54.trans (st55 _ (Steps.refl _))
  obtain ⟨cl57, Ar57, q57, S57, Nn57, Ha57, G57⟩ := id V52
  obtain ⟨T57, h57, X57, e57, W57, st57⟩ := stR X55 hx hZ e55 Ar57 (j := (10 : Int32)) (inb_of S57 ⟨by decide, by decide⟩) rfl (Sto.ofV Ar57 q57 O2 (Ins.self ((((((((((((xu10.ext X00.2).ext E2).wr W7).wr W12).wr W17).wr W22).wr W27).wr W32).wr W37).wr W42).wr W47).wr W52))) (g := (mkF m 75 #[] [(.ref u10), (.int (10 : Int32)), (.ref b2), (.ref b2)])) rfl rfl (hb hby d_method_2_code_75)
  have V57 : Arv Z h57 b2 k2 (.object "com/example/cabin_audio_policy/cabinaudiopolicy/AudioUsage") (21 : Int32) [(.ref u0), (.ref u1), (.ref u2), (.ref u3), (.ref u4), (.ref u5), (.ref u6), (.ref u7), (.ref u8), (.ref u9), (.ref u10), .null, .null, .null, .null, .null, .null, .null, .null, .null, .null] .null := Arv.set Ar57 q57 S57 Nn57 Ha57 G57 rfl W57 10 rfl (Nat.le_of_ble_eq_true rfl)
  have c58 : Steps p.tables e below S0 (T57.setTop (mkF m 76 #[] [(.ref b2)])) := c56.trans (st57 _ (Steps.refl _))
  have N57 := Fr.snoc X57 N52 (Nat.le_trans Z0 (Nat.le_trans K0.1 (Nat.le_of_eq g2.symm)))
  have z57 : n0 ≤ h57.size := Nat.le_trans z52 (Keep.of_wr W57).1
  have K57 := K52.wr W57 (Or.inr (Nat.le_trans K0.1 (Nat.le_of_eq g2.symm)))
  have c59 : Steps p.tables e below S0 (T57.setTop (mkF m 79 #[] [(.int (11 : Int32)), (.ref b2), (.ref b2)])) := c58.trans (by
    show Steps p.tables e below (T57.setTop (mkF m 76 #[] [(.ref b2)])) _
    refine XS.dup X57.here hx rfl (hb hby d_method_2_code_76) rfl rfl ?_
    show Steps p.tables e below (T57.setTop (mkF m 77 #[] [(.ref b2), (.ref b2)])) _
    refine XS.bipush X57.here hx rfl (hb hby d_method_2_code_77) ?_
    exact Steps.refl _)
  obtain ⟨T60, X60, e60, st60⟩ := getS2 X57 hx hZ hown (host := "") (Or.inl (hw _ (List.mem_of_getElem? (i := 30) rfl))) Via.refl e57 (su11.ext ((((((((((((X00.ext E2).wr W7 (Nat.le_trans Z0 (Nat.le_trans K0.1 (Nat.le_of_eq g2.symm)))).wr W12 (Nat.le_trans Z0 (Nat.le_trans K0.1 (Nat.le_of_eq g2.symm)))).wr W17 (Nat.le_trans Z0 (Nat.le_trans K0.1 (Nat.le_of_eq g2.symm)))).wr W22 (Nat.le_trans Z0 (Nat.le_trans K0.1 (Nat.le_of_eq g2.symm)))).wr W27 (Nat.le_trans Z0 (Nat.le_trans K0.1 (Nat.le_of_eq g2.symm)))).wr W32 (Nat.le_trans Z0 (Nat.le_trans K0.1 (Nat.le_of_eq g2.symm)))).wr W37 (Nat.le_trans Z0 (Nat.le_trans K0.1 (Nat.le_of_eq g2.symm)))).wr W42 (Nat.le_trans Z0 (Nat.le_trans K0.1 (Nat.le_of_eq g2.symm)))).wr W47 (Nat.le_trans Z0 (Nat.le_trans K0.1 (Nat.le_of_eq g2.symm)))).wr W52 (Nat.le_trans Z0 (Nat.le_trans K0.1 (Nat.le_of_eq g2.symm)))).wr W57 (Nat.le_trans Z0 (Nat.le_trans K0.1 (Nat.le_of_eq g2.symm)))).2) (g := (mkF m 79 #[] [(.int (11 : Int32)), (.ref b2), (.ref b2)])) rfl (hb hby d_method_2_code_79)
  have c61 : Steps p.tables e below S0 (T60.setTop (mkF m 82 #[] [(.ref u11), (.int (11 : Int32)), (.ref b2), (.ref b2)])) := c59.trans (st60 _ (Steps.refl _))
  obtain ⟨cl62, Ar62, q62, S62, Nn62, Ha62, G62⟩ := id V57
  obtain ⟨T62, h62, X62, e62, W62, st62⟩ := stR X60 hx hZ e60 Ar62 (j := (11 : Int32)) (inb_of S62 ⟨by decide, by decide⟩) rfl (Sto.ofV Ar62 q62 O2 (Ins.self (((((((((((((xu11.ext X00.2).ext E2).wr W7).wr W12).wr W17).wr W22).wr W27).wr W32).wr W37).wr W42).wr W47).wr W52).wr W57))) (g := (mkF m 82 #[] [(.ref u11), (.int (11 : Int32)), (.ref b2), (.ref b2)])) rfl rfl (hb hby d_method_2_code_82)
  have V62 : Arv Z h62 b2 k2 (.object "com/example/cabin_audio_policy/cabinaudiopolicy/AudioUsage") (21 : Int32) [(.ref u0), (.ref u1), (.ref u2), (.ref u3), (.ref u4), (.ref u5), (.ref u6), (.ref u7), (.ref u8), (.ref u9), (.ref u10), (.ref u11), .null, .null, .null, .null, .null, .null, .null, .null, .null] .null := Arv.set Ar62 q62 S62 Nn62 Ha62 G62 rfl W62 11 rfl (Nat.le_of_ble_eq_true rfl)
  have c63 : Steps p.tables e below S0 (T62.setTop (mkF m 83 #[] [(.ref b2)])) := c61.trans (st62 _ (Steps.refl _))
  have N62 := Fr.snoc X62 N57 (Nat.le_trans Z0 (Nat.le_trans K0.1 (Nat.le_of_eq g2.symm)))
  have z62 : n0 ≤ h62.size := Nat.le_trans z57 (Keep.of_wr W62).1
  have K62 := K57.wr W62 (Or.inr (Nat.le_trans K0.1 (Nat.le_of_eq g2.symm)))
  have c64 : Steps p.tables e below S0 (T62.setTop (mkF m 86 #[] [(.int (12 : Int32)), (.ref b2), (.ref b2)])) := c63.trans (by
    show Steps p.tables e below (T62.setTop (mkF m 83 #[] [(.ref b2)])) _
    refine XS.dup X62.here hx rfl (hb hby d_method_2_code_83) rfl rfl ?_
    show Steps p.tables e below (T62.setTop (mkF m 84 #[] [(.ref b2), (.ref b2)])) _
    refine XS.bipush X62.here hx rfl (hb hby d_method_2_code_84) ?_
    exact Steps.refl _)
  obtain ⟨T65, X65, e65, st65⟩ := getS2 X62 hx hZ hown (host := "") (Or.inl (hw _ (List.mem_of_getElem? (i := 32) rfl))) Via.refl e62 (su12.ext (((((((((((((X00.ext E2).wr W7 (Nat.le_trans Z0 (Nat.le_trans K0.1 (Nat.le_of_eq g2.symm)))).wr W12 (Nat.le_trans Z0 (Nat.le_trans K0.1 (Nat.le_of_eq g2.symm)))).wr W17 (Nat.le_trans Z0 (Nat.le_trans K0.1 (Nat.le_of_eq g2.symm)))).wr W22 (Nat.le_trans Z0 (Nat.le_trans K0.1 (Nat.le_of_eq g2.symm)))).wr W27 (Nat.le_trans Z0 (Nat.le_trans K0.1 (Nat.le_of_eq g2.symm)))).wr W32 (Nat.le_trans Z0 (Nat.le_trans K0.1 (Nat.le_of_eq g2.symm)))).wr W37 (Nat.le_trans Z0 (Nat.le_trans K0.1 (Nat.le_of_eq g2.symm)))).wr W42 (Nat.le_trans Z0 (Nat.le_trans K0.1 (Nat.le_of_eq g2.symm)))).wr W47 (Nat.le_trans Z0 (Nat.le_trans K0.1 (Nat.le_of_eq g2.symm)))).wr W52 (Nat.le_trans Z0 (Nat.le_trans K0.1 (Nat.le_of_eq g2.symm)))).wr W57 (Nat.le_trans Z0 (Nat.le_trans K0.1 (Nat.le_of_eq g2.symm)))).wr W62 (Nat.le_trans Z0 (Nat.le_trans K0.1 (Nat.le_of_eq g2.symm)))).2) (g := (mkF m 86 #[] [(.int (12 : Int32)), (.ref b2), (.ref b2)])) rfl (hb hby d_method_2_code_86)
  have c66 : Steps p.tables e below S0 (T65.setTop (mkF m 89 #[] [(.ref u12), (.int (12 : Int32)), (.ref b2), (.ref b2)])) := c64.trans (st65 _ (Steps.refl _))
  obtain ⟨cl67, Ar67, q67, S67, Nn67, Ha67, G67⟩ := id V62
  obtain ⟨T67, h67, X67, e67, W67, st67⟩ := stR X65 hx hZ e65 Ar67 (j := (12 : Int32)) (inb_of S67 ⟨by decide, by decide⟩) rfl (Sto.ofV Ar67 q67 O2 (Ins.self ((((((((((((((xu12.ext X00.2).ext E2).wr W7).wr W12).wr W17).wr W22).wr W27).wr W32).wr W37).wr W42).wr W47).wr W52).wr W57).wr W62))) (g := (mkF m 89 #[] [(.ref u12), (.int (12 : Int32)), (.ref b2), (.ref b2)])) rfl rfl (hb hby d_method_2_code_89)
  have V67 : Arv Z h67 b2 k2 (.object "com/example/cabin_audio_policy/cabinaudiopolicy/AudioUsage") (21 : Int32) [(.ref u0), (.ref u1), (.ref u2), (.ref u3), (.ref u4), (.ref u5), (.ref u6), (.ref u7), (.ref u8), (.ref u9), (.ref u10), (.ref u11), (.ref u12), .null, .null, .null, .null, .null, .null, .null, .null] .null := Arv.set Ar67 q67 S67 Nn67 Ha67 G67 rfl W67 12 rfl (Nat.le_of_ble_eq_true rfl)
  have c68 : Steps p.tables e below S0 (T67.setTop (mkF m 90 #[] [(.ref b2)])) := c66.trans (st67 _ (Steps.refl _))
  have N67 := Fr.snoc X67 N62 (Nat.le_trans Z0 (Nat.le_trans K0.1 (Nat.le_of_eq g2.symm)))
  have z67 : n0 ≤ h67.size := Nat.le_trans z62 (Keep.of_wr W67).1
  have K67 := K62.wr W67 (Or.inr (Nat.le_trans K0.1 (Nat.le_of_eq g2.symm)))
  have c69 : Steps p.tables e below S0 (T67.setTop (mkF m 93 #[] [(.int (13 : Int32)), (.ref b2), (.ref b2)])) := c68.trans (by
    show Steps p.tables e below (T67.setTop (mkF m 90 #[] [(.ref b2)])) _
    refine XS.dup X67.here hx rfl (hb hby d_method_2_code_90) rfl rfl ?_
    show Steps p.tables e below (T67.setTop (mkF m 91 #[] [(.ref b2), (.ref b2)])) _
    refine XS.bipush X67.here hx rfl (hb hby d_method_2_code_91) ?_
    exact Steps.refl _)
  obtain ⟨T70, X70, e70, st70⟩ := getS2 X67 hx hZ hown (host := "") (Or.inl (hw _ (List.mem_of_getElem? (i := 34) rfl))) Via.refl e67 (su13.ext ((((((((((((((X00.ext E2).wr W7 (Nat.le_trans Z0 (Nat.le_trans K0.1 (Nat.le_of_eq g2.symm)))).wr W12 (Nat.le_trans Z0 (Nat.le_trans K0.1 (Nat.le_of_eq g2.symm)))).wr W17 (Nat.le_trans Z0 (Nat.le_trans K0.1 (Nat.le_of_eq g2.symm)))).wr W22 (Nat.le_trans Z0 (Nat.le_trans K0.1 (Nat.le_of_eq g2.symm)))).wr W27 (Nat.le_trans Z0 (Nat.le_trans K0.1 (Nat.le_of_eq g2.symm)))).wr W32 (Nat.le_trans Z0 (Nat.le_trans K0.1 (Nat.le_of_eq g2.symm)))).wr W37 (Nat.le_trans Z0 (Nat.le_trans K0.1 (Nat.le_of_eq g2.symm)))).wr W42 (Nat.le_trans Z0 (Nat.le_trans K0.1 (Nat.le_of_eq g2.symm)))).wr W47 (Nat.le_trans Z0 (Nat.le_trans K0.1 (Nat.le_of_eq g2.symm)))).wr W52 (Nat.le_trans Z0 (Nat.le_trans K0.1 (Nat.le_of_eq g2.symm)))).wr W57 (Nat.le_trans Z0 (Nat.le_trans K0.1 (Nat.le_of_eq g2.symm)))).wr W62 (Nat.le_trans Z0 (Nat.le_trans K0.1 (Nat.le_of_eq g2.symm)))).wr W67 (Nat.le_trans Z0 (Nat.le_trans K0.1 (Nat.le_of_eq g2.symm)))).2) (g := (mkF m 93 #[] [(.int (13 : Int32)), (.ref b2), (.ref b2)])) rfl (hb hby d_method_2_code_93)
  have c71 : Steps p.tables e below S0 (T70.setTop (mkF m 96 #[] [(.ref u13), (.int (13 : Int32)), (.ref b2), (.ref b2)])) := c69.trans (st70 _ (Steps.refl _))
  obtain ⟨cl72, Ar72, q72, S72, Nn72, Ha72, G72⟩ := id V67
  obtain ⟨T72, h72, X72, e72, W72, st72⟩ := stR X70 hx hZ e70 Ar72 (j := (13 : Int32)) (inb_of S72 ⟨by decide, by decide⟩) rfl (Sto.ofV Ar72 q72 O2 (Ins.self (((((((((((((((xu13.ext X00.2).ext E2).wr W7).wr W12).wr W17).wr W22).wr W27).wr W32).wr W37).wr W42).wr W47).wr W52).wr W57).wr W62).wr W67))) (g := (mkF m 96 #[] [(.ref u13), (.int (13 : Int32)), (.ref b2), (.ref b2)])) rfl rfl (hb hby d_method_2_code_96)
  have V72 : Arv Z h72 b2 k2 (.object "com/example/cabin_audio_policy/cabinaudiopolicy/AudioUsage") (21 : Int32) [(.ref u0), (.ref u1), (.ref u2), (.ref u3), (.ref u4), (.ref u5), (.ref u6), (.ref u7), (.ref u8), (.ref u9), (.ref u10), (.ref u11), (.ref u12), (.ref u13), .null, .null, .null, .null, .null, .null, .null] .null := Arv.set Ar72 q72 S72 Nn72 Ha72 G72 rfl W72 13 rfl (Nat.le_of_ble_eq_true rfl)
  have c73 : Steps p.tables e below S0 (T72.setTop (mkF m 97 #[] [(.ref b2)])) := c71.trans (st72 _ (Steps.refl _))
  have N72 := Fr.snoc X72 N67 (Nat.le_trans Z0 (Nat.le_trans K0.1 (Nat.le_of_eq g2.symm)))
  have z72 : n0 ≤ h72.size := Nat.le_trans z67 (Keep.of_wr W72).1
  have K72 := K67.wr W72 (Or.inr (Nat.le_trans K0.1 (Nat.le_of_eq g2.symm)))
  have c74 : Steps p.tables e below S0 (T72.setTop (mkF m 100 #[] [(.int (14 : Int32)), (.ref b2), (.ref b2)])) := c73.trans (by
    show Steps p.tables e below (T72.setTop (mkF m 97 #[] [(.ref b2)])) _
    refine XS.dup X72.here hx rfl (hb hby d_method_2_code_97) rfl rfl ?_
    show Steps p.tables e below (T72.setTop (mkF m 98 #[] [(.ref b2), (.ref b2)])) _
    refine XS.bipush X72.here hx rfl (hb hby d_method_2_code_98) ?_
    exact Steps.refl _)
  obtain ⟨T75, X75, e75, st75⟩ := getS2 X72 hx hZ hown (host := "") (Or.inl (hw _ (List.mem_of_getElem? (i := 36) rfl))) Via.refl e72 (su14.ext (((((((((((((((X00.ext E2).wr W7 (Nat.le_trans Z0 (Nat.le_trans K0.1 (Nat.le_of_eq g2.symm)))).wr W12 (Nat.le_trans Z0 (Nat.le_trans K0.1 (Nat.le_of_eq g2.symm)))).wr W17 (Nat.le_trans Z0 (Nat.le_trans K0.1 (Nat.le_of_eq g2.symm)))).wr W22 (Nat.le_trans Z0 (Nat.le_trans K0.1 (Nat.le_of_eq g2.symm)))).wr W27 (Nat.le_trans Z0 (Nat.le_trans K0.1 (Nat.le_of_eq g2.symm)))).wr W32 (Nat.le_trans Z0 (Nat.le_trans K0.1 (Nat.le_of_eq g2.symm)))).wr W37 (Nat.le_trans Z0 (Nat.le_trans K0.1 (Nat.le_of_eq g2.symm)))).wr W42 (Nat.le_trans Z0 (Nat.le_trans K0.1 (Nat.le_of_eq g2.symm)))).wr W47 (Nat.le_trans Z0 (Nat.le_trans K0.1 (Nat.le_of_eq g2.symm)))).wr W52 (Nat.le_trans Z0 (Nat.le_trans K0.1 (Nat.le_of_eq g2.symm)))).wr W57 (Nat.le_trans Z0 (Nat.le_trans K0.1 (Nat.le_of_eq g2.symm)))).wr W62 (Nat.le_trans Z0 (Nat.le_trans K0.1 (Nat.le_of_eq g2.symm)))).wr W67 (Nat.le_trans Z0 (Nat.le_trans K0.1 (Nat.le_of_eq g2.symm)))).wr W72 (Nat.le_trans Z0 (Nat.le_trans K0.1 (Nat.le_of_eq g2.symm)))).2) (g := (mkF m 100 #[] [(.int (14 : Int32)), (.ref b2), (.ref b2)])) rfl (hb hby d_method_2_code_100)
  have c76 : Steps p.tables e below S0 (T75.setTop (mkF m 103 #[] [(.ref u14), (.int (14 : Int32)), (.ref b2), (.ref b2)])) := c74.trans (st75 _ (Steps.refl _))
  obtain ⟨cl77, Ar77, q77, S77, Nn77, Ha77, G77⟩ := id V72
  obtain ⟨T77, h77, X77, e77, W77, st77⟩ := stR X75 hx hZ e75 Ar77 (j := (14 : Int32)) (inb_of S77 ⟨by decide, by decide⟩) rfl (Sto.ofV Ar77 q77 O2 (Ins.self ((((((((((((((((xu14.ext X00.2).ext E2).wr W7).wr W12).wr W17).wr W22).wr W27).wr W32).wr W37).wr W42).wr W47).wr W52).wr W57).wr W62).wr W67).wr W72))) (g := (mkF m 103 #[] [(.ref u14), (.int (14 : Int32)), (.ref b2), (.ref b2)])) rfl rfl (hb hby d_method_2_code_103)
  have V77 : Arv Z h77 b2 k2 (.object "com/example/cabin_audio_policy/cabinaudiopolicy/AudioUsage") (21 : Int32) [(.ref u0), (.ref u1), (.ref u2), (.ref u3), (.ref u4), (.ref u5), (.ref u6), (.ref u7), (.ref u8), (.ref u9), (.ref u10), (.ref u11), (.ref u12), (.ref u13), (.ref u14), .null, .null, .null, .null, .null, .null] .null := Arv.set Ar77 q77 S77 Nn77 Ha77 G77 rfl W77 14 rfl (Nat.le_of_ble_eq_true rfl)
  have c78 : Steps p.tables e below S0 (T77.setTop (mkF m 104 #[] [(.ref b2)])) := c76.trans (st77 _ (Steps.refl _))
  have N77 := Fr.snoc X77 N72 (Nat.le_trans Z0 (Nat.le_trans K0.1 (Nat.le_of_eq g2.symm)))
  have z77 : n0 ≤ h77.size := Nat.le_trans z72 (Keep.of_wr W77).1
  have K77 := K72.wr W77 (Or.inr (Nat.le_trans K0.1 (Nat.le_of_eq g2.symm)))
  have c79 : Steps p.tables e below S0 (T77.setTop (mkF m 107 #[] [(.int (15 : Int32)), (.ref b2), (.ref b2)])) := c78.trans (by
    show Steps p.tables e below (T77.setTop (mkF m 104 #[] [(.ref b2)])) _
    refine XS.dup X77.here hx rfl (hb hby d_method_2_code_104) rfl rfl ?_
    show Steps p.tables e below (T77.setTop (mkF m 105 #[] [(.ref b2), (.ref b2)])) _
    refine XS.bipush X77.here hx rfl (hb hby d_method_2_code_105) ?_
    exact Steps.refl _)
  obtain ⟨T80, X80, e80, st80⟩ := getS2 X77 hx hZ hown (host := "") (Or.inl (hw _ (List.mem_of_getElem? (i := 38) rfl))) Via.refl e77 (su15.ext ((((((((((((((((X00.ext E2).wr W7 (Nat.le_trans Z0 (Nat.le_trans K0.1 (Nat.le_of_eq g2.symm)))).wr W12 (Nat.le_trans Z0 (Nat.le_trans K0.1 (Nat.le_of_eq g2.symm)))).wr W17 (Nat.le_trans Z0 (Nat.le_trans K0.1 (Nat.le_of_eq g2.symm)))).wr W22 (Nat.le_trans Z0 (Nat.le_trans K0.1 (Nat.le_of_eq g2.symm)))).wr W27 (Nat.le_trans Z0 (Nat.le_trans K0.1 (Nat.le_of_eq g2.symm)))).wr W32 (Nat.le_trans Z0 (Nat.le_trans K0.1 (Nat.le_of_eq g2.symm)))).wr W37 (Nat.le_trans Z0 (Nat.le_trans K0.1 (Nat.le_of_eq g2.symm)))).wr W42 (Nat.le_trans Z0 (Nat.le_trans K0.1 (Nat.le_of_eq g2.symm)))).wr W47 (Nat.le_trans Z0 (Nat.le_trans K0.1 (Nat.le_of_eq g2.symm)))).wr W52 (Nat.le_trans Z0 (Nat.le_trans K0.1 (Nat.le_of_eq g2.symm)))).wr W57 (Nat.le_trans Z0 (Nat.le_trans K0.1 (Nat.le_of_eq g2.symm)))).wr W62 (Nat.le_trans Z0 (Nat.le_trans K0.1 (Nat.le_of_eq g2.symm)))).wr W67 (Nat.le_trans Z0 (Nat.le_trans K0.1 (Nat.le_of_eq g2.symm)))).wr W72 (Nat.le_trans Z0 (Nat.le_trans K0.1 (Nat.le_of_eq g2.symm)))).wr W77 (Nat.le_trans Z0 (Nat.le_trans K0.1 (Nat.le_of_eq g2.symm)))).2) (g := (mkF m 107 #[] [(.int (15 : Int32)), (.ref b2), (.ref b2)])) rfl (hb hby d_method_2_code_107)
  have c81 : Steps p.tables e below S0 (T80.setTop (mkF m 110 #[] [(.ref u15), (.int (15 : Int32)), (.ref b2), (.ref b2)])) := c79.trans (st80 _ (Steps.refl _))
  obtain ⟨cl82, Ar82, q82, S82, Nn82, Ha82, G82⟩ := id V77
  obtain ⟨T82, h82, X82, e82, W82, st82⟩ := stR X80 hx hZ e80 Ar82 (j := (15 : Int32)) (inb_of S82 ⟨by decide, by decide⟩) rfl (Sto.ofV Ar82 q82 O2 (Ins.self (((((((((((((((((xu15.ext X00.2).ext E2).wr W7).wr W12).wr W17).wr W22).wr W27).wr W32).wr W37).wr W42).wr W47).wr W52).wr W57).wr W62).wr W67).wr W72).wr W77))) (g := (mkF m 110 #[] [(.ref u15), (.int (15 : Int32)), (.ref b2), (.ref b2)])) rfl rfl (hb hby d_method_2_code_110)
  have V82 : Arv Z h82 b2 k2 (.object "com/example/cabin_audio_policy/cabinaudiopolicy/AudioUsage") (21 : Int32) [(.ref u0), (.ref u1), (.ref u2), (.ref u3), (.ref u4), (.ref u5), (.ref u6), (.ref u7), (.ref u8), (.ref u9), (.ref u10), (.ref u11), (.ref u12), (.ref u13), (.ref u14), (.ref u15), .null, .null, .null, .null, .null] .null := Arv.set Ar82 q82 S82 Nn82 Ha82 G82 rfl W82 15 rfl (Nat.le_of_ble_eq_true rfl)
  have c83 : Steps p.tables e below S0 (T82.setTop (mkF m 111 #[] [(.ref b2)])) := c81.trans (st82 _ (Steps.refl _))
  have N82 := Fr.snoc X82 N77 (Nat.le_trans Z0 (Nat.le_trans K0.1 (Nat.le_of_eq g2.symm)))
  have z82 : n0 ≤ h82.size := Nat.le_trans z77 (Keep.of_wr W82).1
  have K82 := K77.wr W82 (Or.inr (Nat.le_trans K0.1 (Nat.le_of_eq g2.symm)))
  have c84 : Steps p.tables e below S0 (T82.setTop (mkF m 114 #[] [(.int (16 : Int32)), (.ref b2), (.ref b2)])) := c83.trans (by
    show Steps p.tables e below (T82.setTop (mkF m 111 #[] [(.ref b2)])) _
    refine XS.dup X82.here hx rfl (hb hby d_method_2_code_111) rfl rfl ?_
    show Steps p.tables e below (T82.setTop (mkF m 112 #[] [(.ref b2), (.ref b2)])) _
    refine XS.bipush X82.here hx rfl (hb hby d_method_2_code_112) ?_
    exact Steps.refl _)
  obtain ⟨T85, X85, e85, st85⟩ := getS2 X82 hx hZ hown (host := "") (Or.inl (hw _ (List.mem_of_getElem? (i := 40) rfl))) Via.refl e82 (su16.ext (((((((((((((((((X00.ext E2).wr W7 (Nat.le_trans Z0 (Nat.le_trans K0.1 (Nat.le_of_eq g2.symm)))).wr W12 (Nat.le_trans Z0 (Nat.le_trans K0.1 (Nat.le_of_eq g2.symm)))).wr W17 (Nat.le_trans Z0 (Nat.le_trans K0.1 (Nat.le_of_eq g2.symm)))).wr W22 (Nat.le_trans Z0 (Nat.le_trans K0.1 (Nat.le_of_eq g2.symm)))).wr W27 (Nat.le_trans Z0 (Nat.le_trans K0.1 (Nat.le_of_eq g2.symm)))).wr W32 (Nat.le_trans Z0 (Nat.le_trans K0.1 (Nat.le_of_eq g2.symm)))).wr W37 (Nat.le_trans Z0 (Nat.le_trans K0.1 (Nat.le_of_eq g2.symm)))).wr W42 (Nat.le_trans Z0 (Nat.le_trans K0.1 (Nat.le_of_eq g2.symm)))).wr W47 (Nat.le_trans Z0 (Nat.le_trans K0.1 (Nat.le_of_eq g2.symm)))).wr W52 (Nat.le_trans Z0 (Nat.le_trans K0.1 (Nat.le_of_eq g2.symm)))).wr W57 (Nat.le_trans Z0 (Nat.le_trans K0.1 (Nat.le_of_eq g2.symm)))).wr W62 (Nat.le_trans Z0 (Nat.le_trans K0.1 (Nat.le_of_eq g2.symm)))).wr W67 (Nat.le_trans Z0 (Nat.le_trans K0.1 (Nat.le_of_eq g2.symm)))).wr W72 (Nat.le_trans Z0 (Nat.le_trans K0.1 (Nat.le_of_eq g2.symm)))).wr W77 (Nat.le_trans Z0 (Nat.le_trans K0.1 (Nat.le_of_eq g2.symm)))).wr W82 (Nat.le_trans Z0 (Nat.le_trans K0.1 (Nat.le_of_eq g2.symm)))).2) (g := (mkF m 114 #[] [(.int (16 : Int32)), (.ref b2), (.ref b2)])) rfl (hb hby d_method_2_code_114)
  have c86 : Steps p.tables e below S0 (T85.setTop (mkF m 117 #[] [(.ref u16), (.int (16 : Int32)), (.ref b2), (.ref b2)])) := c84.trans (st85 _ (Steps.refl _))
  obtain ⟨cl87, Ar87, q87, S87, Nn87, Ha87, G87⟩ := id V82
  obtain ⟨T87, h87, X87, e87, W87, st87⟩ := stR X85 hx hZ e85 Ar87 (j := (16 : Int32)) (inb_of S87 ⟨by decide, by decide⟩) rfl (Sto.ofV Ar87 q87 O2 (Ins.self ((((((((((((((((((xu16.ext X00.2).ext E2).wr W7).wr W12).wr W17).wr W22).wr W27).wr W32).wr W37).wr W42).wr W47).wr W52).wr W57).wr W62).wr W67).wr W72).wr W77).wr W82))) (g := (mkF m 117 #[] [(.ref u16), (.int (16 : Int32)), (.ref b2), (.ref b2)])) rfl rfl (hb hby d_method_2_code_117)
  have V87 : Arv Z h87 b2 k2 (.object "com/example/cabin_audio_policy/cabinaudiopolicy/AudioUsage") (21 : Int32) [(.ref u0), (.ref u1), (.ref u2), (.ref u3), (.ref u4), (.ref u5), (.ref u6), (.ref u7), (.ref u8), (.ref u9), (.ref u10), (.ref u11), (.ref u12), (.ref u13), (.ref u14), (.ref u15), (.ref u16), .null, .null, .null, .null] .null := Arv.set Ar87 q87 S87 Nn87 Ha87 G87 rfl W87 16 rfl (Nat.le_of_ble_eq_true rfl)
  have c88 : Steps p.tables e below S0 (T87.setTop (mkF m 118 #[] [(.ref b2)])) := c86.trans (st87 _ (Steps.refl _))
  have N87 := Fr.snoc X87 N82 (Nat.le_trans Z0 (Nat.le_trans K0.1 (Nat.le_of_eq g2.symm)))
  have z87 : n0 ≤ h87.size := Nat.le_trans z82 (Keep.of_wr W87).1
  have K87 := K82.wr W87 (Or.inr (Nat.le_trans K0.1 (Nat.le_of_eq g2.symm)))
  have c89 : Steps p.tables e below S0 (T87.setTop (mkF m 121 #[] [(.int (17 : Int32)), (.ref b2), (.ref b2)])) := c88.trans (by
    show Steps p.tables e below (T87.setTop (mkF m 118 #[] [(.ref b2)])) _
    refine XS.dup X87.here hx rfl (hb hby d_method_2_code_118) rfl rfl ?_
    show Steps p.tables e below (T87.setTop (mkF m 119 #[] [(.ref b2), (.ref b2)])) _
    refine XS.bipush X87.here hx rfl (hb hby d_method_2_code_119) ?_
    exact Steps.refl _)
  obtain ⟨T90, X90, e90, st90⟩ := getS2 X87 hx hZ hown (host := "") (Or.inl (hw _ (List.mem_of_getElem? (i := 42) rfl))) Via.refl e87 (su17.ext ((((((((((((((((((X00.ext E2).wr W7 (Nat.le_trans Z0 (Nat.le_trans K0.1 (Nat.le_of_eq g2.symm)))).wr W12 (Nat.le_trans Z0 (Nat.le_trans K0.1 (Nat.le_of_eq g2.symm)))).wr W17 (Nat.le_trans Z0 (Nat.le_trans K0.1 (Nat.le_of_eq g2.symm)))).wr W22 (Nat.le_trans Z0 (Nat.le_trans K0.1 (Nat.le_of_eq g2.symm)))).wr W27 (Nat.le_trans Z0 (Nat.le_trans K0.1 (Nat.le_of_eq g2.symm)))).wr W32 (Nat.le_trans Z0 (Nat.le_trans K0.1 (Nat.le_of_eq g2.symm)))).wr W37 (Nat.le_trans Z0 (Nat.le_trans K0.1 (Nat.le_of_eq g2.symm)))).wr W42 (Nat.le_trans Z0 (Nat.le_trans K0.1 (Nat.le_of_eq g2.symm)))).wr W47 (Nat.le_trans Z0 (Nat.le_trans K0.1 (Nat.le_of_eq g2.symm)))).wr W52 (Nat.le_trans Z0 (Nat.le_trans K0.1 (Nat.le_of_eq g2.symm)))).wr W57 (Nat.le_trans Z0 (Nat.le_trans K0.1 (Nat.le_of_eq g2.symm)))).wr W62 (Nat.le_trans Z0 (Nat.le_trans K0.1 (Nat.le_of_eq g2.symm)))).wr W67 (Nat.le_trans Z0 (Nat.le_trans K0.1 (Nat.le_of_eq g2.symm)))).wr W72 (Nat.le_trans Z0 (Nat.le_trans K0.1 (Nat.le_of_eq g2.symm)))).wr W77 (Nat.le_trans Z0 (Nat.le_trans K0.1 (Nat.le_of_eq g2.symm)))).wr W82 (Nat.le_trans Z0 (Nat.le_trans K0.1 (Nat.le_of_eq g2.symm)))).wr W87 (Nat.le_trans Z0 (Nat.le_trans K0.1 (Nat.le_of_eq g2.symm)))).2) (g := (mkF m 121 #[] [(.int (17 : Int32)), (.ref b2), (.ref b2)])) rfl (hb hby d_method_2_code_121)
  have c91 : Steps p.tables e below S0 (T90.setTop (mkF m 124 #[] [(.ref u17), (.int (17 : Int32)), (.ref b2), (.ref b2)])) := c89.trans (st90 _ (Steps.refl _))
  obtain ⟨cl92, Ar92, q92, S92, Nn92, Ha92, G92⟩ := id V87
  obtain ⟨T92, h92, X92, e92, W92, st92⟩ := stR X90 hx hZ e90 Ar92 (j := (17 : Int32)) (inb_of S92 ⟨by decide, by decide⟩) rfl (Sto.ofV Ar92 q92 O2 (Ins.self (((((((((((((((((((xu17.ext X00.2).ext E2).wr W7).wr W12).wr W17).wr W22).wr W27).wr W32).wr W37).wr W42).wr W47).wr W52).wr W57).wr W62).wr W67).wr W72).wr W77).wr W82).wr W87))) (g := (mkF m 124 #[] [(.ref u17), (.int (17 : Int32)), (.ref b2), (.ref b2)])) rfl rfl (hb hby d_method_2_code_124)
  have V92 : Arv Z h92 b2 k2 (.object "com/example/cabin_audio_policy/cabinaudiopolicy/AudioUsage") (21 : Int32) [(.ref u0), (.ref u1), (.ref u2), (.ref u3), (.ref u4), (.ref u5), (.ref u6), (.ref u7), (.ref u8), (.ref u9), (.ref u10), (.ref u11), (.ref u12), (.ref u13), (.ref u14), (.ref u15), (.ref u16), (.ref u17), .null, .null, .null] .null := Arv.set Ar92 q92 S92 Nn92 Ha92 G92 rfl W92 17 rfl (Nat.le_of_ble_eq_true rfl)
  have c93 : Steps p.tables e below S0 (T92.setTop (mkF m 125 #[] [(.ref b2)])) := c91.trans (st92 _ (Steps.refl _))
  have N92 := Fr.snoc X92 N87 (Nat.le_trans Z0 (Nat.le_trans K0.1 (Nat.le_of_eq g2.symm)))
  have z92 : n0 ≤ h92.size := Nat.le_trans z87 (Keep.of_wr W92).1
  have K92 := K87.wr W92 (Or.inr (Nat.le_trans K0.1 (Nat.le_of_eq g2.symm)))
  have c94 : Steps p.tables e below S0 (T92.setTop (mkF m 128 #[] [(.int (18 : Int32)), (.ref b2), (.ref b2)])) := c93.trans (by
    show Steps p.tables e below (T92.setTop (mkF m 125 #[] [(.ref b2)])) _
    refine XS.dup X92.here hx rfl (hb hby d_method_2_code_125) rfl rfl ?_
    show Steps p.tables e below (T92.setTop (mkF m 126 #[] [(.ref b2), (.ref b2)])) _
    refine XS.bipush X92.here hx rfl (hb hby d_method_2_code_126) ?_
    exact Steps.refl _)
  obtain ⟨T95, X95, e95, st95⟩ := getS2 X92 hx hZ hown (host := "") (Or.inl (hw _ (List.mem_of_getElem? (i := 44) rfl))) Via.refl e92 (su18.ext (((((((((((((((((((X00.ext E2).wr W7 (Nat.le_trans Z0 (Nat.le_trans K0.1 (Nat.le_of_eq g2.symm)))).wr W12 (Nat.le_trans Z0 (Nat.le_trans K0.1 (Nat.le_of_eq g2.symm)))).wr W17 (Nat.le_trans Z0 (Nat.le_trans K0.1 (Nat.le_of_eq g2.symm)))).wr W22 (Nat.le_trans Z0 (Nat.le_trans K0.1 (Nat.le_of_eq g2.symm)))).wr W27 (Nat.le_trans Z0 (Nat.le_trans K0.1 (Nat.le_of_eq g2.symm)))).wr W32 (Nat.le_trans Z0 (Nat.le_trans K0.1 (Nat.le_of_eq g2.symm)))).wr W37 (Nat.le_trans Z0 (Nat.le_trans K0.1 (Nat.le_of_eq g2.symm)))).wr W42 (Nat.le_trans Z0 (Nat.le_trans K0.1 (Nat.le_of_eq g2.symm)))).wr W47 (Nat.le_trans Z0 (Nat.le_trans K0.1 (Nat.le_of_eq g2.symm)))).wr W52 (Nat.le_trans Z0 (Nat.le_trans K0.1 (Nat.le_of_eq g2.symm)))).wr W57 (Nat.le_trans Z0 (Nat.le_trans K0.1 (Nat.le_of_eq g2.symm)))).wr W62 (Nat.le_trans Z0 (Nat.le_trans K0.1 (Nat.le_of_eq g2.symm)))).wr W67 (Nat.le_trans Z0 (Nat.le_trans K0.1 (Nat.le_of_eq g2.symm)))).wr W72 (Nat.le_trans Z0 (Nat.le_trans K0.1 (Nat.le_of_eq g2.symm)))).wr W77 (Nat.le_trans Z0 (Nat.le_trans K0.1 (Nat.le_of_eq g2.symm)))).wr W82 (Nat.le_trans Z0 (Nat.le_trans K0.1 (Nat.le_of_eq g2.symm)))).wr W87 (Nat.le_trans Z0 (Nat.le_trans K0.1 (Nat.le_of_eq g2.symm)))).wr W92 (Nat.le_trans Z0 (Nat.le_trans K0.1 (Nat.le_of_eq g2.symm)))).2) (g := (mkF m 128 #[] [(.int (18 : Int32)), (.ref b2), (.ref b2)])) rfl (hb hby d_method_2_code_128)
  have c96 : Steps p.tables e below S0 (T95.setTop (mkF m 131 #[] [(.ref u18), (.int (18 : Int32)), (.ref b2), (.ref b2)])) := c94.trans (st95 _ (Steps.refl _))
  obtain ⟨cl97, Ar97, q97, S97, Nn97, Ha97, G97⟩ := id V92
  obtain ⟨T97, h97, X97, e97, W97, st97⟩ := stR X95 hx hZ e95 Ar97 (j := (18 : Int32)) (inb_of S97 ⟨by decide, by decide⟩) rfl (Sto.ofV Ar97 q97 O2 (Ins.self ((((((((((((((((((((xu18.ext X00.2).ext E2).wr W7).wr W12).wr W17).wr W22).wr W27).wr W32).wr W37).wr W42).wr W47).wr W52).wr W57).wr W62).wr W67).wr W72).wr W77).wr W82).wr W87).wr W92))) (g := (mkF m 131 #[] [(.ref u18), (.int (18 : Int32)), (.ref b2), (.ref b2)])) rfl rfl (hb hby d_method_2_code_131)
  have V97 : Arv Z h97 b2 k2 (.object "com/example/cabin_audio_policy/cabinaudiopolicy/AudioUsage") (21 : Int32) [(.ref u0), (.ref u1), (.ref u2), (.ref u3), (.ref u4), (.ref u5), (.ref u6), (.ref u7), (.ref u8), (.ref u9), (.ref u10), (.ref u11), (.ref u12), (.ref u13), (.ref u14), (.ref u15), (.ref u16), (.ref u17), (.ref u18), .null, .null] .null := Arv.set Ar97 q97 S97 Nn97 Ha97 G97 rfl W97 18 rfl (Nat.le_of_ble_eq_true rfl)
  have c98 : Steps p.tables e below S0 (T97.setTop (mkF m 132 #[] [(.ref b2)])) := c96.trans (st97 _ (Steps.refl _))
  have N97 := Fr.snoc X97 N92 (Nat.le_trans Z0 (Nat.le_trans K0.1 (Nat.le_of_eq g2.symm)))
  have z97 : n0 ≤ h97.size := Nat.le_trans z92 (Keep.of_wr W97).1
  have K97 := K92.wr W97 (Or.inr (Nat.le_trans K0.1 (Nat.le_of_eq g2.symm)))
  have c99 : Steps p.tables e below S0 (T97.setTop (mkF m 135 #[] [(.int (19 : Int32)), (.ref b2), (.ref b2)])) := c98.trans (by
    show Steps p.tables e below (T97.setTop (mkF m 132 #[] [(.ref b2)])) _
    refine XS.dup X97.here hx rfl (hb hby d_method_2_code_132) rfl rfl ?_
    show Steps p.tables e below (T97.setTop (mkF m 133 #[] [(.ref b2), (.ref b2)])) _
    refine XS.bipush X97.here hx rfl (hb hby d_method_2_code_133) ?_
    exact Steps.refl _)
  obtain ⟨T100, X100, e100, st100⟩ := getS2 X97 hx hZ hown (host := "") (Or.inl (hw _ (List.mem_of_getElem? (i := 46) rfl))) Via.refl e97 (su19.ext ((((((((((((((((((((X00.ext E2).wr W7 (Nat.le_trans Z0 (Nat.le_trans K0.1 (Nat.le_of_eq g2.symm)))).wr W12 (Nat.le_trans Z0 (Nat.le_trans K0.1 (Nat.le_of_eq g2.symm)))).wr W17 (Nat.le_trans Z0 (Nat.le_trans K0.1 (Nat.le_of_eq g2.symm)))).wr W22 (Nat.le_trans Z0 (Nat.le_trans K0.1 (Nat.le_of_eq g2.symm)))).wr W27 (Nat.le_trans Z0 (Nat.le_trans K0.1 (Nat.le_of_eq g2.symm)))).wr W32 (Nat.le_trans Z0 (Nat.le_trans K0.1 (Nat.le_of_eq g2.symm)))).wr W37 (Nat.le_trans Z0 (Nat.le_trans K0.1 (Nat.le_of_eq g2.symm)))).wr W42 (Nat.le_trans Z0 (Nat.le_trans K0.1 (Nat.le_of_eq g2.symm)))).wr W47 (Nat.le_trans Z0 (Nat.le_trans K0.1 (Nat.le_of_eq g2.symm)))).wr W52 (Nat.le_trans Z0 (Nat.le_trans K0.1 (Nat.le_of_eq g2.symm)))).wr W57 (Nat.le_trans Z0 (Nat.le_trans K0.1 (Nat.le_of_eq g2.symm)))).wr W62 (Nat.le_trans Z0 (Nat.le_trans K0.1 (Nat.le_of_eq g2.symm)))).wr W67 (Nat.le_trans Z0 (Nat.le_trans K0.1 (Nat.le_of_eq g2.symm)))).wr W72 (Nat.le_trans Z0 (Nat.le_trans K0.1 (Nat.le_of_eq g2.symm)))).wr W77 (Nat.le_trans Z0 (Nat.le_trans K0.1 (Nat.le_of_eq g2.symm)))).wr W82 (Nat.le_trans Z0 (Nat.le_trans K0.1 (Nat.le_of_eq g2.symm)))).wr W87 (Nat.le_trans Z0 (Nat.le_trans K0.1 (Nat.le_of_eq g2.symm)))).wr W92 (Nat.le_trans Z0 (Nat.le_trans K0.1 (Nat.le_of_eq g2.symm)))).wr W97 (Nat.le_trans Z0 (Nat.le_trans K0.1 (Nat.le_of_eq g2.symm)))).2) (g := (mkF m 135 #[] [(.int (19 : Int32)), (.ref b2), (.ref b2)])) rfl (hb hby d_method_2_code_135)
  have c101 : Steps p.tables e below S0 (T100.setTop (mkF m 138 #[] [(.ref u19), (.int (19 : Int32)), (.ref b2), (.ref b2)])) := c99.trans (st100 _ (Steps.refl _))
  obtain ⟨cl102, Ar102, q102, S102, Nn102, Ha102, G102⟩ := id V97
  obtain ⟨T102, h102, X102, e102, W102, st102⟩ := stR X100 hx hZ e100 Ar102 (j := (19 : Int32)) (inb_of S102 ⟨by decide, by decide⟩) rfl (Sto.ofV Ar102 q102 O2 (Ins.self (((((((((((((((((((((xu19.ext X00.2).ext E2).wr W7).wr W12).wr W17).wr W22).wr W27).wr W32).wr W37).wr W42).wr W47).wr W52).wr W57).wr W62).wr W67).wr W72).wr W77).wr W82).wr W87).wr W92).wr W97))) (g := (mkF m 138 #[] [(.ref u19), (.int (19 : Int32)), (.ref b2), (.ref b2)])) rfl rfl (hb hby d_method_2_code_138)
  have V102 : Arv Z h102 b2 k2 (.object "com/example/cabin_audio_policy/cabinaudiopolicy/AudioUsage") (21 : Int32) [(.ref u0), (.ref u1), (.ref u2), (.ref u3), (.ref u4), (.ref u5), (.ref u6), (.ref u7), (.ref u8), (.ref u9), (.ref u10), (.ref u11), (.ref u12), (.ref u13), (.ref u14), (.ref u15), (.ref u16), (.ref u17), (.ref u18), (.ref u19), .null] .null := Arv.set Ar102 q102 S102 Nn102 Ha102 G102 rfl W102 19 rfl (Nat.le_of_ble_eq_true rfl)
  have c103 : Steps p.tables e below S0 (T102.setTop (mkF m 139 #[] [(.ref b2)])) := c101.trans (st102 _ (Steps.refl _))
  have N102 := Fr.snoc X102 N97 (Nat.le_trans Z0 (Nat.le_trans K0.1 (Nat.le_of_eq g2.symm)))
  have z102 : n0 ≤ h102.size := Nat.le_trans z97 (Keep.of_wr W102).1
  have K102 := K97.wr W102 (Or.inr (Nat.le_trans K0.1 (Nat.le_of_eq g2.symm)))
  have c104 : Steps p.tables e below S0 (T102.setTop (mkF m 142 #[] [(.int (20 : Int32)), (.ref b2), (.ref b2)])) := c103.trans (by
    show Steps p.tables e below (T102.setTop (mkF m 139 #[] [(.ref b2)])) _
    refine XS.dup X102.here hx rfl (hb hby d_method_2_code_139) rfl rfl ?_
    show Steps p.tables e below (T102.setTop (mkF m 140 #[] [(.ref b2), (.ref b2)])) _
    refine XS.bipush X102.here hx rfl (hb hby d_method_2_code_140) ?_
    exact Steps.refl _)
  obtain ⟨T105, X105, e105, st105⟩ := getS2 X102 hx hZ hown (host := "") (Or.inl (hw _ (List.mem_of_getElem? (i := 48) rfl))) Via.refl e102 (su20.ext (((((((((((((((((((((X00.ext E2).wr W7 (Nat.le_trans Z0 (Nat.le_trans K0.1 (Nat.le_of_eq g2.symm)))).wr W12 (Nat.le_trans Z0 (Nat.le_trans K0.1 (Nat.le_of_eq g2.symm)))).wr W17 (Nat.le_trans Z0 (Nat.le_trans K0.1 (Nat.le_of_eq g2.symm)))).wr W22 (Nat.le_trans Z0 (Nat.le_trans K0.1 (Nat.le_of_eq g2.symm)))).wr W27 (Nat.le_trans Z0 (Nat.le_trans K0.1 (Nat.le_of_eq g2.symm)))).wr W32 (Nat.le_trans Z0 (Nat.le_trans K0.1 (Nat.le_of_eq g2.symm)))).wr W37 (Nat.le_trans Z0 (Nat.le_trans K0.1 (Nat.le_of_eq g2.symm)))).wr W42 (Nat.le_trans Z0 (Nat.le_trans K0.1 (Nat.le_of_eq g2.symm)))).wr W47 (Nat.le_trans Z0 (Nat.le_trans K0.1 (Nat.le_of_eq g2.symm)))).wr W52 (Nat.le_trans Z0 (Nat.le_trans K0.1 (Nat.le_of_eq g2.symm)))).wr W57 (Nat.le_trans Z0 (Nat.le_trans K0.1 (Nat.le_of_eq g2.symm)))).wr W62 (Nat.le_trans Z0 (Nat.le_trans K0.1 (Nat.le_of_eq g2.symm)))).wr W67 (Nat.le_trans Z0 (Nat.le_trans K0.1 (Nat.le_of_eq g2.symm)))).wr W72 (Nat.le_trans Z0 (Nat.le_trans K0.1 (Nat.le_of_eq g2.symm)))).wr W77 (Nat.le_trans Z0 (Nat.le_trans K0.1 (Nat.le_of_eq g2.symm)))).wr W82 (Nat.le_trans Z0 (Nat.le_trans K0.1 (Nat.le_of_eq g2.symm)))).wr W87 (Nat.le_trans Z0 (Nat.le_trans K0.1 (Nat.le_of_eq g2.symm)))).wr W92 (Nat.le_trans Z0 (Nat.le_trans K0.1 (Nat.le_of_eq g2.symm)))).wr W97 (Nat.le_trans Z0 (Nat.le_trans K0.1 (Nat.le_of_eq g2.symm)))).wr W102 (Nat.le_trans Z0 (Nat.le_trans K0.1 (Nat.le_of_eq g2.symm)))).2) (g := (mkF m 142 #[] [(.int (20 : Int32)), (.ref b2), (.ref b2)])) rfl (hb hby d_method_2_code_142)
  have c106 : Steps p.tables e below S0 (T105.setTop (mkF m 145 #[] [(.ref u20), (.int (20 : Int32)), (.ref b2), (.ref b2)])) := c104.trans (st105 _ (Steps.refl _))
  obtain ⟨cl107, Ar107, q107, S107, Nn107, Ha107, G107⟩ := id V102
  obtain ⟨T107, h107, X107, e107, W107, st107⟩ := stR X105 hx hZ e105 Ar107 (j := (20 : Int32)) (inb_of S107 ⟨by decide, by decide⟩) rfl (Sto.ofV Ar107 q107 O2 (Ins.self ((((((((((((((((((((((xu20.ext X00.2).ext E2).wr W7).wr W12).wr W17).wr W22).wr W27).wr W32).wr W37).wr W42).wr W47).wr W52).wr W57).wr W62).wr W67).wr W72).wr W77).wr W82).wr W87).wr W92).wr W97).wr W102))) (g := (mkF m 145 #[] [(.ref u20), (.int (20 : Int32)), (.ref b2), (.ref b2)])) rfl rfl (hb hby d_method_2_code_145)
  have V107 : Arv Z h107 b2 k2 (.object "com/example/cabin_audio_policy/cabinaudiopolicy/AudioUsage") (21 : Int32) [(.ref u0), (.ref u1), (.ref u2), (.ref u3), (.ref u4), (.ref u5), (.ref u6), (.ref u7), (.ref u8), (.ref u9), (.ref u10), (.ref u11), (.ref u12), (.ref u13), (.ref u14), (.ref u15), (.ref u16), (.ref u17), (.ref u18), (.ref u19), (.ref u20)] .null := Arv.set Ar107 q107 S107 Nn107 Ha107 G107 rfl W107 20 rfl (Nat.le_of_ble_eq_true rfl)
  have c108 : Steps p.tables e below S0 (T107.setTop (mkF m 146 #[] [(.ref b2)])) := c106.trans (st107 _ (Steps.refl _))
  have N107 := Fr.snoc X107 N102 (Nat.le_trans Z0 (Nat.le_trans K0.1 (Nat.le_of_eq g2.symm)))
  have z107 : n0 ≤ h107.size := Nat.le_trans z102 (Keep.of_wr W107).1
  have K107 := K102.wr W107 (Or.inr (Nat.le_trans K0.1 (Nat.le_of_eq g2.symm)))
  obtain ⟨fs, hr, hrun, hended, hW, hsame⟩ := X107.leave (v := some (.ref b2)) (fun h => by rw [Bd.returns] at h; cases h)
  refine ⟨_, _, c108.trans (retOut X107 hx Bd.returns rfl (Or.inr (Or.inr (Or.inr (Or.inr ⟨rfl, rfl, rfl⟩)))) (hb hby d_method_2_code_146) hr), hrun, hended, _, _, rfl, ?_, ⟨_, rfl⟩, hW, hsame.mono (by decide) (by decide)⟩
  show QrmUs Z u0 u1 u2 u3 u4 u5 u6 u7 u8 u9 u10 u11 u12 u13 u14 u15 u16 u17 u18 u19 u20 h0 n0 _ T107.heap _
  rw [e107]
  exact ⟨_, _, rfl, N107, K107, (Nat.le_trans K0.1 (Nat.le_of_eq g2.symm)), V107⟩

def QrmCs (Z : State) (ct0 ct1 ct2 ct3 ct4 ct5 : Addr) (h0 : Heap) (n0 : Nat) (v : Option Value) (h : Heap) (L : List Loc) : Prop := ∃ (b : Addr) (k : ClassId), v = some (.ref b) ∧ Fr n0 L ∧ Keep h0 h [] ∧ h0.size ≤ b ∧ Arv Z h b k (.object "com/example/cabin_audio_policy/cabinaudiopolicy/AudioContentType") (6 : Int32) [.ref ct0, .ref ct1, .ref ct2, .ref ct3, .ref ct4, .ref ct5] .null

theorem d_method_3_code_0 : decode method_3_code 0 = .ok (.bipush 6, 2) := by decide +kernel
theorem d_method_3_code_2 : decode method_3_code 2 = .ok (.anewarray 73, 3) := by decide +kernel
theorem d_method_3_code_5 : decode method_3_code 5 = .ok (.dup, 1) := by decide +kernel
theorem d_method_3_code_6 : decode method_3_code 6 = .ok (.iconst 0, 1) := by decide +kernel
theorem d_method_3_code_7 : decode method_3_code 7 = .ok (.getstatic 75, 3) := by decide +kernel
theorem d_method_3_code_10 : decode method_3_code 10 = .ok (.aastore, 1) := by decide +kernel
theorem d_method_3_code_11 : decode method_3_code 11 = .ok (.dup, 1) := by decide +kernel
theorem d_method_3_code_12 : decode method_3_code 12 = .ok (.iconst 1, 1) := by decide +kernel
theorem d_method_3_code_13 : decode method_3_code 13 = .ok (.getstatic 78, 3) := by decide +kernel
theorem d_method_3_code_16 : decode method_3_code 16 = .ok (.aastore, 1) := by decide +kernel
theorem d_method_3_code_17 : decode method_3_code 17 = .ok (.dup, 1) := by decide +kernel
theorem d_method_3_code_18 : decode method_3_code 18 = .ok (.iconst 2, 1) := by decide +kernel
theorem d_method_3_code_19 : decode method_3_code 19 = .ok (.getstatic 81, 3) := by decide +kernel
theorem d_method_3_code_22 : decode method_3_code 22 = .ok (.aastore, 1) := by decide +kernel
theorem d_method_3_code_23 : decode method_3_code 23 = .ok (.dup, 1) := by decide +kernel
theorem d_method_3_code_24 : decode method_3_code 24 = .ok (.iconst 3, 1) := by decide +kernel
theorem d_method_3_code_25 : decode method_3_code 25 = .ok (.getstatic 84, 3) := by decide +kernel
theorem d_method_3_code_28 : decode method_3_code 28 = .ok (.aastore, 1) := by decide +kernel
theorem d_method_3_code_29 : decode method_3_code 29 = .ok (.dup, 1) := by decide +kernel
theorem d_method_3_code_30 : decode method_3_code 30 = .ok (.iconst 4, 1) := by decide +kernel
theorem d_method_3_code_31 : decode method_3_code 31 = .ok (.getstatic 87, 3) := by decide +kernel
theorem d_method_3_code_34 : decode method_3_code 34 = .ok (.aastore, 1) := by decide +kernel
theorem d_method_3_code_35 : decode method_3_code 35 = .ok (.dup, 1) := by decide +kernel
theorem d_method_3_code_36 : decode method_3_code 36 = .ok (.iconst 5, 1) := by decide +kernel
theorem d_method_3_code_37 : decode method_3_code 37 = .ok (.getstatic 90, 3) := by decide +kernel
theorem d_method_3_code_40 : decode method_3_code 40 = .ok (.aastore, 1) := by decide +kernel
theorem d_method_3_code_41 : decode method_3_code 41 = .ok (.areturn, 1) := by decide +kernel
theorem ef_rmCs (m : MethodId)  : entryFrame m #[] 0 = mkF m 0 #[] [] := by first | (simp [entryFrame, mkF, argsToLocals, Value.category]; done) | rfl
set_option maxRecDepth 65536 in
set_option maxHeartbeats 40000000 in
theorem rmCs (l : Launch) (Z : State) (a0 : Array Value) (hw : ∀ d ∈ tables_1, d.before a0 Z = true) (ws : List Jvm.Cond) (ct0 ct1 ct2 ct3 ct4 ct5 : Addr) (h0 : Heap) (n0 : Nat) (Z0 : n0 ≤ h0.size) (sct0 : Sta Z Z.heap "com/example/cabin_audio_policy/cabinaudiopolicy/AudioContentType" "UNKNOWN" "Lcom/example/cabin_audio_policy/cabinaudiopolicy/AudioContentType;" (.ref ct0)) (xct0 : Exa Z Z.heap ct0 "com/example/cabin_audio_policy/cabinaudiopolicy/AudioContentType") (sct1 : Sta Z Z.heap "com/example/cabin_audio_policy/cabinaudiopolicy/AudioContentType" "SPEECH" "Lcom/example/cabin_audio_policy/cabinaudiopolicy/AudioContentType;" (.ref ct1)) (xct1 : Exa Z Z.heap ct1 "com/example/cabin_audio_policy/cabinaudiopolicy/AudioContentType") (sct2 : Sta Z Z.heap "com/example/cabin_audio_policy/cabinaudiopolicy/AudioContentType" "MUSIC" "Lcom/example/cabin_audio_policy/cabinaudiopolicy/AudioContentType;" (.ref ct2)) (xct2 : Exa Z Z.heap ct2 "com/example/cabin_audio_policy/cabinaudiopolicy/AudioContentType") (sct3 : Sta Z Z.heap "com/example/cabin_audio_policy/cabinaudiopolicy/AudioContentType" "MOVIE" "Lcom/example/cabin_audio_policy/cabinaudiopolicy/AudioContentType;" (.ref ct3)) (xct3 : Exa Z Z.heap ct3 "com/example/cabin_audio_policy/cabinaudiopolicy/AudioContentType") (sct4 : Sta Z Z.heap "com/example/cabin_audio_policy/cabinaudiopolicy/AudioContentType" "SONIFICATION" "Lcom/example/cabin_audio_policy/cabinaudiopolicy/AudioContentType;" (.ref ct4)) (xct4 : Exa Z Z.heap ct4 "com/example/cabin_audio_policy/cabinaudiopolicy/AudioContentType") (sct5 : Sta Z Z.heap "com/example/cabin_audio_policy/cabinaudiopolicy/AudioContentType" "ULTRASOUND" "Lcom/example/cabin_audio_policy/cabinaudiopolicy/AudioContentType;" (.ref ct5)) (xct5 : Exa Z Z.heap ct5 "com/example/cabin_audio_policy/cabinaudiopolicy/AudioContentType") (X00 : Old Z n0 h0) :
    MetFree l (⟨"com/example/cabin_audio_policy/cabinaudiopolicy/AudioAttributesOfPinLaw", "contentTypes", "()[Lcom/example/cabin_audio_policy/cabinaudiopolicy/AudioContentType;"⟩ : MethodName) (head1 (Jvm.Cond.code (⟨"com/example/cabin_audio_policy/cabinaudiopolicy/AudioAttributesOfPinLaw", "contentTypes", "()[Lcom/example/cabin_audio_policy/cabinaudiopolicy/AudioContentType;"⟩ : MethodName) method_3_code 0 (some (.array (.object "com/example/cabin_audio_policy/cabinaudiopolicy/AudioContentType"))) :: ws) ({ frames := 0, cells := 1, slots := 6, locals := 0 } : Room)) (fun aa U => aa = #[] ∧ Z.Warmed39 U.vm ∧ U.heap = h0) (fun _ _ _ _ _ => True) (fun _ U o U' => ∃ v L, o = .returned v ∧ QrmCs Z ct0 ct1 ct2 ct3 ct4 ct5 h0 n0 v U'.heap L ∧ FrameEnd U o U' L ({ frames := 0, cells := 1, slots := 6, locals := 0 } : Room).cells ({ frames := 0, cells := 1, slots := 6, locals := 0 } : Room).slots) := by
  refine MetFree.of_bodySF (plainFor_of_name pn_com_example_cabin_audio_policy_cabinaudiopolicy_AudioAttributesOfPinLaw) hisR ?_
  intro p e s m args below meth c s₁ Bd hml0 hP hK
  obtain ⟨rfl, hZ, hh⟩ := hP
  have hx := Bd.exec
  have hby := Bd.bytes
  have hml : c.maxLocals = 0 := hml0
  have hown : s.vm.findClass "com/example/cabin_audio_policy/cabinaudiopolicy/AudioAttributesOfPinLaw" = some m.cls := findClass_of_methodNamed Bd.named
  have hnm := (name_of_methodNamed Bd.named Bd.method).1
  have X0 : Stand p l e ({ frames := 0, cells := 1, slots := 6, locals := 0 } : Room) s m #[] below meth c s₁ [] 0 0 := Stand.of_body Bd
  have e0 : s₁.heap = h0 := by rw [← hh, Bd.state]; rfl
  have N0 := Fr.nil n0
  have K0 := Keep.refl h0 []
  obtain ⟨S0, hS0⟩ : ∃ z, z = s₁.setTop (entryFrame m #[] 0) := ⟨_, rfl⟩
  rw [← hS0]
  have c0 : Steps p.tables e below S0 (s₁.setTop (mkF m 0 #[] [])) := by
    rw [hS0]; exact castTop (ef_rmCs m ) (Steps.refl _)
  have c1 : Steps p.tables e below S0 (s₁.setTop (mkF m 2 #[] [(.int (6 : Int32))])) := c0.trans (by
    show Steps p.tables e below (s₁.setTop (mkF m 0 #[] [])) _
    refine XS.bipush X0.here hx rfl (hb hby d_method_3_code_0) ?_
    exact Steps.refl _)
  obtain ⟨T2, h2, k2, X2, e2, E2, A2, O2, st2⟩ := newR X0 hx hZ hown (hw _ (List.mem_of_getElem? (i := 53) rfl)) (hw _ (List.mem_of_getElem? (i := 54) rfl)) e0 (g := (mkF m 2 #[] [(.int (6 : Int32))])) rfl (hb hby d_method_3_code_2) rfl (by decide) (cap := 6) (by decide) (by decide) (by decide) (by decide)
  obtain ⟨b2, g2⟩ : ∃ z, z = h0.size := ⟨_, rfl⟩
  rw [← g2] at A2 st2
  have c3 : Steps p.tables e below S0 (T2.setTop (mkF m 5 #[] [(.ref b2)])) := c1.trans (st2 _ (Steps.refl _))
  have z2 : n0 ≤ h2.size := Nat.le_trans Z0 E2.1
  have K2 := K0.ext E2
  have V2 : Arv Z h2 b2 k2 (.object "com/example/cabin_audio_policy/cabinaudiopolicy/AudioContentType") (6 : Int32) [.null, .null, .null, .null, .null, .null] .null := (Arv.new A2 (by decide)).pad (pad_rep [] .null 6)
  have lt_b2 : b2 < h2.size := V2.lt
  have c4 : Steps p.tables e below S0 (T2.setTop (mkF m 7 #[] [(.int (0 : Int32)), (.ref b2), (.ref b2)])) := c3.trans (by
    show Steps p.tables e below (T2.setTop (mkF m 5 #[] [(.ref b2)])) _
    refine XS.dup X2.here hx rfl (hb hby d_method_3_code_5) rfl rfl ?_
    show Steps p.tables e below (T2.setTop (mkF m 6 #[] [(.ref b2), (.ref b2)])) _
    refine XS.iconst X2.here hx rfl (hb hby d_method_3_code_6) ?_
    exact Steps.refl _)
  obtain ⟨T5, X5, e5, st5⟩ := getS2 X2 hx hZ hown (host := "") (Or.inl (hw _ (List.mem_of_getElem? (i := 55) rfl))) Via.refl e2 (sct0.ext (X00.ext E2).2) (g := (mkF m 7 #[] [(.int (0 : Int32)), (.ref b2), (.ref b2)])) rfl (hb hby d_method_3_code_7)
  have c6 : Steps p.tables e below S0 (T5.setTop (mkF m 10 #[] [(.ref ct0), (.int (0 : Int32)), (.ref b2), (.ref b2)])) := c4.trans (st5 _ (Steps.refl _))
  obtain ⟨cl7, Ar7, q7, S7, Nn7, Ha7, G7⟩ := id V2
  obtain ⟨T7, h7, X7, e7, W7, st7⟩ := stR X5 hx hZ e5 Ar7 (j := (0 : Int32)) (inb_of S7 ⟨by decide, by decide⟩) rfl (Sto.ofV Ar7 q7 O2 (Ins.self ((xct0.ext X00.2).ext E2))) (g := (mkF m 10 #[] [(.ref ct0), (.int (0 : Int32)), (.ref b2), (.ref b2)])) rfl rfl (hb hby d_method_3_code_10)
  have V7 : Arv Z h7 b2 k2 (.object "com/example/cabin_audio_policy/cabinaudiopolicy/AudioContentType") (6 : Int32) [(.ref ct0), .null, .null, .null, .null, .null] .null := Arv.set Ar7 q7 S7 Nn7 Ha7 G7 rfl W7 0 rfl (Nat.le_of_ble_eq_true rfl)
  have c8 : Steps p.tables e below S0 (T7.setTop (mkF m 11 #[] [(.ref b2)])) := c6.trans (st7 _ (Steps.refl _))
  have N7 := Fr.snoc X7 N0 (Nat.le_trans Z0 (Nat.le_trans K0.1 (Nat.le_of_eq g2.symm)))
  have z7 : n0 ≤ h7.size := Nat.le_trans z2 (Keep.of_wr W7).1
  have K7 := K2.wr W7 (Or.inr (Nat.le_trans K0.1 (Nat.le_of_eq g2.symm)))
  have c9 : Steps p.tables e below S0 (T7.setTop (mkF m 13 #[] [(.int (1 : Int32)), (.ref b2), (.ref b2)])) := c8.trans (by
    show Steps p.tables e below (T7.setTop (mkF m 11 #[] [(.ref b2)])) _
    refine XS.dup X7.here hx rfl (hb hby d_method_3_code_11) rfl rfl ?_
    show Steps p.tables e below (T7.setTop (mkF m 12 #[] [(.ref b2), (.ref b2)])) _
    refine XS.iconst X7.here hx rfl (hb hby d_method_3_code_12) ?_
    exact Steps.refl _)
  obtain ⟨T10, X10, e10, st10⟩ := getS2 X7 hx hZ hown (host := "") (Or.inl (hw _ (List.mem_of_getElem? (i := 59) rfl))) Via.refl e7 (sct1.ext ((X00.ext E2).wr W7 (Nat.le_trans Z0 (Nat.le_trans K0.1 (Nat.le_of_eq g2.symm)))).2) (g := (mkF m 13 #[] [(.int (1 : Int32)), (.ref b2), (.ref b2)])) rfl (hb hby d_method_3_code_13)
  have c11 : Steps p.tables e below S0 (T10.setTop (mkF m 16 #[] [(.ref ct1), (.int (1 : Int32)), (.ref b2), (.ref b2)])) := c9.trans (st10 _ (Steps.refl _))
  obtain ⟨cl12, Ar12, q12, S12, Nn12, Ha12, G12⟩ := id V7
  obtain ⟨T12, h12, X12, e12, W12, st12⟩ := stR X10 hx hZ e10 Ar12 (j := (1 : Int32)) (inb_of S12 ⟨by decide, by decide⟩) rfl (Sto.ofV Ar12 q12 O2 (Ins.self (((xct1.ext X00.2).ext E2).wr W7))) (g := (mkF m 16 #[] [(.ref ct1), (.int (1 : Int32)), (.ref b2), (.ref b2)])) rfl rfl (hb hby d_method_3_code_16)
  have V12 : Arv Z h12 b2 k2 (.object "com/example/cabin_audio_policy/cabinaudiopolicy/AudioContentType") (6 : Int32) [(.ref ct0), (.ref ct1), .null, .null, .null, .null] .null := Arv.set Ar12 q12 S12 Nn12 Ha12 G12 rfl W12 1 rfl (Nat.le_of_ble_eq_true rfl)
  have c13 : Steps p.tables e below S0 (T12.setTop (mkF m 17 #[] [(.ref b2)])) := c11.trans (st12 _ (Steps.refl _))
  have N12 := Fr.snoc X12 N7 (Nat.le_trans Z0 (Nat.le_trans K0.1 (Nat.le_of_eq g2.symm)))
  have z12 : n0 ≤ h12.size := Nat.le_trans z7 (Keep.of_wr W12).1
  have K12 := K7.wr W12 (Or.inr (Nat.le_trans K0.1 (Nat.le_of_eq g2.symm)))
  have c14 : Steps p.tables e below S0 (T12.setTop (mkF m 19 #[] [(.int (2 : Int32)), (.ref b2), (.ref b2)])) := c13.trans (by
    show Steps p.tables e below (T12.setTop (mkF m 17 #[] [(.ref b2)])) _
    refine XS.dup X12.here hx rfl (hb hby d_method_3_code_17) rfl rfl ?_
    show Steps p.tables e below (T12.setTop (mkF m 18 #[] [(.ref b2), (.ref b2)])) _
    refine XS.iconst X12.here hx rfl (hb hby d_method_3_code_18) ?_
    exact Steps.refl _)
  obtain ⟨T15, X15, e15, st15⟩ := getS2 X12 hx hZ hown (host := "") (Or.inl (hw _ (List.mem_of_getElem? (i := 61) rfl))) Via.refl e12 (sct2.ext (((X00.ext E2).wr W7 (Nat.le_trans Z0 (Nat.le_trans K0.1 (Nat.le_of_eq g2.symm)))).wr W12 (Nat.le_trans Z0 (Nat.le_trans K0.1 (Nat.le_of_eq g2.symm)))).2) (g := (mkF m 19 #[] [(.int (2 : Int32)), (.ref b2), (.ref b2)])) rfl (hb hby d_method_3_code_19)
  have c16 : Steps p.tables e below S0 (T15.setTop (mkF m 22 #[] [(.ref ct2), (.int (2 : Int32)), (.ref b2), (.ref b2)])) := c14.trans (st15 _ (Steps.refl _))
  obtain ⟨cl17, Ar17, q17, S17, Nn17, Ha17, G17⟩ := id V12
  obtain ⟨T17, h17, X17, e17, W17, st17⟩ := stR X15 hx hZ e15 Ar17 (j := (2 : Int32)) (inb_of S17 ⟨by decide, by decide⟩) rfl (Sto.ofV Ar17 q17 O2 (Ins.self ((((xct2.ext X00.2).ext E2).wr W7).wr W12))) (g := (mkF m 22 #[] [(.ref ct2), (.int (2 : Int32)), (.ref b2), (.ref b2)])) rfl rfl (hb hby d_method_3_code_22)
  have V17 : Arv Z h17 b2 k2 (.object "com/example/cabin_audio_policy/cabinaudiopolicy/AudioContentType") (6 : Int32) [(.ref ct0), (.ref ct1), (.ref ct2), .null, .null, .null] .null := Arv.set Ar17 q17 S17 Nn17 Ha17 G17 rfl W17 2 rfl (Nat.le_of_ble_eq_true rfl)
  have c18 : Steps p.tables e below S0 (T17.setTop (mkF m 23 #[] [(.ref b2)])) := c16.trans (st17 _ (Steps.refl _))
  have N17 := Fr.snoc X17 N12 (Nat.le_trans Z0 (Nat.le_trans K0.1 (Nat.le_of_eq g2.symm)))
  have z17 : n0 ≤ h17.size := Nat.le_trans z12 (Keep.of_wr W17).1
  have K17 := K12.wr W17 (Or.inr (Nat.le_trans K0.1 (Nat.le_of_eq g2.symm)))
  have c19 : Steps p.tables e below S0 (T17.setTop (mkF m 25 #[] [(.int (3 : Int32)), (.ref b2), (.ref b2)])) := c18.trans (by
    show Steps p.tables e below (T17.setTop (mkF m 23 #[] [(.ref b2)])) _
    refine XS.dup X17.here hx rfl (hb hby d_method_3_code_23) rfl rfl ?_
    show Steps p.tables e below (T17.setTop (mkF m 24 #[] [(.ref b2), (.ref b2)])) _
    refine XS.iconst X17.here hx rfl (hb hby d_method_3_code_24) ?_
    exact Steps.refl _)
  obtain ⟨T20, X20, e20, st20⟩ := getS2 X17 hx hZ hown (host := "") (Or.inl (hw _ (List.mem_of_getElem? (i := 63) rfl))) Via.refl e17 (sct3.ext ((((X00.ext E2).wr W7 (Nat.le_trans Z0 (Nat.le_trans K0.1 (Nat.le_of_eq g2.symm)))).wr W12 (Nat.le_trans Z0 (Nat.le_trans K0.1 (Nat.le_of_eq g2.symm)))).wr W17 (Nat.le_trans Z0 (Nat.le_trans K0.1 (Nat.le_of_eq g2.symm)))).2) (g := (mkF m 25 #[] [(.int (3 : Int32)), (.ref b2), (.ref b2)])) rfl (hb hby d_method_3_code_25)
  have c21 : Steps p.tables e below S0 (T20.setTop (mkF m 28 #[] [(.ref ct3), (.int (3 : Int32)), (.ref b2), (.ref b2)])) := c19.trans (st20 _ (Steps.refl _))
  obtain ⟨cl22, Ar22, q22, S22, Nn22, Ha22, G22⟩ := id V17
  obtain ⟨T22, h22, X22, e22, W22, st22⟩ := stR X20 hx hZ e20 Ar22 (j := (3 : Int32)) (inb_of S22 ⟨by decide, by decide⟩) rfl (Sto.ofV Ar22 q22 O2 (Ins.self (((((xct3.ext X00.2).ext E2).wr W7).wr W12).wr W17))) (g := (mkF m 28 #[] [(.ref ct3), (.int (3 : Int32)), (.ref b2), (.ref b2)])) rfl rfl (hb hby d_method_3_code_28)
  have V22 : Arv Z h22 b2 k2 (.object "com/example/cabin_audio_policy/cabinaudiopolicy/AudioContentType") (6 : Int32) [(.ref ct0), (.ref ct1), (.ref ct2), (.ref ct3), .null, .null] .null := Arv.set Ar22 q22 S22 Nn22 Ha22 G22 rfl W22 3 rfl (Nat.le_of_ble_eq_true rfl)
  have c23 : Steps p.tables e below S0 (T22.setTop (mkF m 29 #[] [(.ref b2)])) := c21.trans (st22 _ (Steps.refl _))
  have N22 := Fr.snoc X22 N17 (Nat.le_trans Z0 (Nat.le_trans K0.1 (Nat.le_of_eq g2.symm)))
  have z22 : n0 ≤ h22.size := Nat.le_trans z17 (Keep.of_wr W22).1
  have K22 := K17.wr W22 (Or.inr (Nat.le_trans K0.1 (Nat.le_of_eq g2.symm)))
  have c24 : Steps p.tables e below S0 (T22.setTop (mkF m 31 #[] [(.int (4 : Int32)), (.ref b2), (.ref b2)])) := c23.trans (by
    show Steps p.tables e below (T22.setTop (mkF m 29 #[] [(.ref b2)])) _
    refine XS.dup X22.here hx rfl (hb hby d_method_3_code_29) rfl rfl ?_
    show Steps p.tables e below (T22.setTop (mkF m 30 #[] [(.ref b2), (.ref b2)])) _
    refine XS.iconst X22.here hx rfl (hb hby d_method_3_code_30) ?_
    exact Steps.refl _)
  obtain ⟨T25, X25, e25, st25⟩ := getS2 X22 hx hZ hown (host := "") (Or.inl (hw _ (List.mem_of_getElem? (i := 65) rfl))) Via.refl e22 (sct4.ext (((((X00.ext E2).wr W7 (Nat.le_trans Z0 (Nat.le_trans K0.1 (Nat.le_of_eq g2.symm)))).wr W12 (Nat.le_trans Z0 (Nat.le_trans K0.1 (Nat.le_of_eq g2.symm)))).wr W17 (Nat.le_trans Z0 (Nat.le_trans K0.1 (Nat.le_of_eq g2.symm)))).wr W22 (Nat.le_trans Z0 (Nat.le_trans K0.1 (Nat.le_of_eq g2.symm)))).2) (g := (mkF m 31 #[] [(.int (4 : Int32)), (.ref b2), (.ref b2)])) rfl (hb hby d_method_3_code_31)
  have c26 : Steps p.tables e below S0 (T25.setTop (mkF m 34 #[] [(.ref ct4), (.int (4 : Int32)), (.ref b2), (.ref b2)])) := c24.trans (st25 _ (Steps.refl _))
  obtain ⟨cl27, Ar27, q27, S27, Nn27, Ha27, G27⟩ := id V22
  obtain ⟨T27, h27, X27, e27, W27, st27⟩ := stR X25 hx hZ e25 Ar27 (j := (4 : Int32)) (inb_of S27 ⟨by decide, by decide⟩) rfl (Sto.ofV Ar27 q27 O2 (Ins.self ((((((xct4.ext X00.2).ext E2).wr W7).wr W12).wr W17).wr W22))) (g := (mkF m 34 #[] [(.ref ct4), (.int (4 : Int32)), (.ref b2), (.ref b2)])) rfl rfl (hb hby d_method_3_code_34)
  have V27 : Arv Z h27 b2 k2 (.object "com/example/cabin_audio_policy/cabinaudiopolicy/AudioContentType") (6 : Int32) [(.ref ct0), (.ref ct1), (.ref ct2), (.ref ct3), (.ref ct4), .null] .null := Arv.set Ar27 q27 S27 Nn27 Ha27 G27 rfl W27 4 rfl (Nat.le_of_ble_eq_true rfl)
  have c28 : Steps p.tables e below S0 (T27.setTop (mkF m 35 #[] [(.ref b2)])) := c26.trans (st27 _ (Steps.refl _))
  have N27 := Fr.snoc X27 N22 (Nat.le_trans Z0 (Nat.le_trans K0.1 (Nat.le_of_eq g2.symm)))
  have z27 : n0 ≤ h27.size := Nat.le_trans z22 (Keep.of_wr W27).1
  have K27 := K22.wr W27 (Or.inr (Nat.le_trans K0.1 (Nat.le_of_eq g2.symm)))
  have c29 : Steps p.tables e below S0 (T27.setTop (mkF m 37 #[] [(.int (5 : Int32)), (.ref b2), (.ref b2)])) := c28.trans (by
    show Steps p.tables e below (T27.setTop (mkF m 35 #[] [(.ref b2)])) _
    refine XS.dup X27.here hx rfl (hb hby d_method_3_code_35) rfl rfl ?_
    show Steps p.tables e below (T27.setTop (mkF m 36 #[] [(.ref b2), (.ref b2)])) _
    refine XS.iconst X27.here hx rfl (hb hby d_method_3_code_36) ?_
    exact Steps.refl _)
  obtain ⟨T30, X30, e30, st30⟩ := getS2 X27 hx hZ hown (host := "") (Or.inl (hw _ (List.mem_of_getElem? (i := 67) rfl))) Via.refl e27 (sct5.ext ((((((X00.ext E2).wr W7 (Nat.le_trans Z0 (Nat.le_trans K0.1 (Nat.le_of_eq g2.symm)))).wr W12 (Nat.le_trans Z0 (Nat.le_trans K0.1 (Nat.le_of_eq g2.symm)))).wr W17 (Nat.le_trans Z0 (Nat.le_trans K0.1 (Nat.le_of_eq g2.symm)))).wr W22 (Nat.le_trans Z0 (Nat.le_trans K0.1 (Nat.le_of_eq g2.symm)))).wr W27 (Nat.le_trans Z0 (Nat.le_trans K0.1 (Nat.le_of_eq g2.symm)))).2) (g := (mkF m 37 #[] [(.int (5 : Int32)), (.ref b2), (.ref b2)])) rfl (hb hby d_method_3_code_37)
  have c31 : Steps p.tables e below S0 (T30.setTop (mkF m 40 #[] [(.ref ct5), (.int (5 : Int32)), (.ref b2), (.ref b2)])) := c29.trans (st30 _ (Steps.refl _))
  obtain ⟨cl32, Ar32, q32, S32, Nn32, Ha32, G32⟩ := id V27
  obtain ⟨T32, h32, X32, e32, W32, st32⟩ := stR X30 hx hZ e30 Ar32 (j := (5 : Int32)) (inb_of S32 ⟨by decide, by decide⟩) rfl (Sto.ofV Ar32 q32 O2 (Ins.self (((((((xct5.ext X00.2).ext E2).wr W7).wr W12).wr W17).wr W22).wr W27))) (g := (mkF m 40 #[] [(.ref ct5), (.int (5 : Int32)), (.ref b2), (.ref b2)])) rfl rfl (hb hby d_method_3_code_40)
  have V32 : Arv Z h32 b2 k2 (.object "com/example/cabin_audio_policy/cabinaudiopolicy/AudioContentType") (6 : Int32) [(.ref ct0), (.ref ct1), (.ref ct2), (.ref ct3), (.ref ct4), (.ref ct5)] .null := Arv.set Ar32 q32 S32 Nn32 Ha32 G32 rfl W32 5 rfl (Nat.le_of_ble_eq_true rfl)
  have c33 : Steps p.tables e below S0 (T32.setTop (mkF m 41 #[] [(.ref b2)])) := c31.trans (st32 _ (Steps.refl _))
  have N32 := Fr.snoc X32 N27 (Nat.le_trans Z0 (Nat.le_trans K0.1 (Nat.le_of_eq g2.symm)))
  have z32 : n0 ≤ h32.size := Nat.le_trans z27 (Keep.of_wr W32).1
  have K32 := K27.wr W32 (Or.inr (Nat.le_trans K0.1 (Nat.le_of_eq g2.symm)))
  obtain ⟨fs, hr, hrun, hended, hW, hsame⟩ := X32.leave (v := some (.ref b2)) (fun h => by rw [Bd.returns] at h; cases h)
  refine ⟨_, _, c33.trans (retOut X32 hx Bd.returns rfl (Or.inr (Or.inr (Or.inr (Or.inr ⟨rfl, rfl, rfl⟩)))) (hb hby d_method_3_code_41) hr), hrun, hended, _, _, rfl, ?_, ⟨_, rfl⟩, hW, hsame.mono (by decide) (by decide)⟩
  show QrmCs Z ct0 ct1 ct2 ct3 ct4 ct5 h0 n0 _ T32.heap _
  rw [e32]
  exact ⟨_, _, rfl, N32, K32, (Nat.le_trans K0.1 (Nat.le_of_eq g2.symm)), V32⟩

def QrmRnn1 (Z : State) (x : Addr) (h0 : Heap) (n0 : Nat) (v : Option Value) (h : Heap) (L : List Loc) : Prop := v = some (.ref x) ∧ Fr n0 L ∧ h = h0

theorem d_jdk_31_method_10_code_0 : decode jdk_31_method_10_code 0 = .ok (.aload_n 0, 1) := by decide +kernel
theorem d_jdk_31_method_10_code_1 : decode jdk_31_method_10_code 1 = .ok (.ifnonnull 11, 3) := by decide +kernel
theorem d_jdk_31_method_10_code_12 : decode jdk_31_method_10_code 12 = .ok (.aload_n 0, 1) := by decide +kernel
theorem d_jdk_31_method_10_code_13 : decode jdk_31_method_10_code 13 = .ok (.areturn, 1) := by decide +kernel
theorem pn_java_util_Objects : plainName "java/util/Objects" = true := by first | (simp [plainName, overriddenIn]; done) | decide +kernel
theorem ef_rmRnn1 (m : MethodId) (x0 : Addr) : entryFrame m #[(.ref x0)] 1 = mkF m 0 #[.val (.ref x0)] [] := by first | (simp [entryFrame, mkF, argsToLocals, Value.category]; done) | rfl
set_option maxRecDepth 65536 in
set_option maxHeartbeats 40000000 in
theorem rmRnn1 (l : Launch) (Z : State) (a0 : Array Value) (hw : ∀ d ∈ tables_1, d.before a0 Z = true) (ws : List Jvm.Cond) (x : Addr) (h0 : Heap) (n0 : Nat) (Z0 : n0 ≤ h0.size)  :
    MetFree l (⟨"java/util/Objects", "requireNonNull", "(Ljava/lang/Object;)Ljava/lang/Object;"⟩ : MethodName) (head1 (Jvm.Cond.code (⟨"java/util/Objects", "requireNonNull", "(Ljava/lang/Object;)Ljava/lang/Object;"⟩ : MethodName) jdk_31_method_10_code 1 (some (.object "java/lang/Object")) :: ws) ({ frames := 0, cells := 0, slots := 0, locals := 0 } : Room)) (fun aa U => aa = #[(.ref x)] ∧ Z.Warmed39 U.vm ∧ U.heap = h0) (fun _ _ _ _ _ => True) (fun _ U o U' => ∃ v L, o = .returned v ∧ QrmRnn1 Z x h0 n0 v U'.heap L ∧ FrameEnd U o U' L ({ frames := 0, cells := 0, slots := 0, locals := 0 } : Room).cells ({ frames := 0, cells := 0, slots := 0, locals := 0 } : Room).slots) := by
  refine MetFree.of_bodySF (plainFor_of_name pn_java_util_Objects) hisR ?_
  intro p e s m args below meth c s₁ Bd hml0 hP hK
  obtain ⟨rfl, hZ, hh⟩ := hP
  have hx := Bd.exec
  have hby := Bd.bytes
  have hml : c.maxLocals = 1 := hml0
  have hown : s.vm.findClass "java/util/Objects" = some m.cls := findClass_of_methodNamed Bd.named
  have hnm := (name_of_methodNamed Bd.named Bd.method).1
  have X0 : Stand p l e ({ frames := 0, cells := 0, slots := 0, locals := 0 } : Room) s m #[(.ref x)] below meth c s₁ [] 0 0 := Stand.of_body Bd
  have e0 : s₁.heap = h0 := by rw [← hh, Bd.state]; rfl
  have N0 := Fr.nil n0
  have K0 := Keep.refl h0 []
  obtain ⟨S0, hS0⟩ : ∃ z, z = s₁.setTop (entryFrame m #[(.ref x)] 1) := ⟨_, rfl⟩
  rw [← hS0]
  have c0 : Steps p.tables e below S0 (s₁.setTop (mkF m 0 #[.val (.ref x)] [])) := by
    rw [hS0]; exact castTop (ef_rmRnn1 m x) (Steps.refl _)
  have c1 : Steps p.tables e below S0 (s₁.setTop (mkF m 13 #[.val (.ref x)] [(.ref x)])) := c0.trans (by
    show Steps p.tables e below (s₁.setTop (mkF m 0 #[.val (.ref x)] [])) _
    refine XS.aloadN X0.here hx rfl (hb hby d_jdk_31_method_10_code_0) rfl rfl ?_
    show Steps p.tables e below (s₁.setTop (mkF m 1 #[.val (.ref x)] [(.ref x)])) _
    refine XS.ifnonnullYes X0.here hx rfl (pc0 := 1) (pc' := 12) rfl (hb hby d_jdk_31_method_10_code_1) rfl (by decide) (by decide) ?_
    show Steps p.tables e below (s₁.setTop (mkF m 12 #[.val (.ref x)] [])) _
    refine XS.aloadN X0.here hx rfl (hb hby d_jdk_31_method_10_code_12) rfl rfl ?_
    exact Steps.refl _)
  obtain ⟨fs, hr, hrun, hended, hW, hsame⟩ := X0.leave (v := some (.ref x)) (fun h => by rw [Bd.returns] at h; cases h)
  refine ⟨_, _, c1.trans (retOut X0 hx Bd.returns rfl (Or.inr (Or.inr (Or.inr (Or.inr ⟨rfl, rfl, rfl⟩)))) (hb hby d_jdk_31_method_10_code_13) hr), hrun, hended, _, _, rfl, ?_, ⟨_, rfl⟩, hW, hsame.mono (by decide) (by decide)⟩
  show QrmRnn1 Z x h0 n0 _ s₁.heap _
  rw [e0]
  exact ⟨rfl, N0, rfl⟩

def QcanE (Z : State) (h0 : Heap) (n0 : Nat) (v : Option Value) (h : Heap) (L : List Loc) : Prop := v = some (.int 1) ∧ Fr n0 L ∧ h = h0

theorem d_jdk_43_method_3_code_0 : decode jdk_43_method_3_code 0 = .ok (.iload_n 0, 1) := by decide +kernel
theorem d_jdk_43_method_3_code_1 : decode jdk_43_method_3_code 1 = .ok (.sipush 255, 3) := by decide +kernel
theorem d_jdk_43_method_3_code_4 : decode jdk_43_method_3_code 4 = .ok (.if_icmp .gt 7, 3) := by decide +kernel
theorem d_jdk_43_method_3_code_7 : decode jdk_43_method_3_code 7 = .ok (.iconst 1, 1) := by decide +kernel
theorem d_jdk_43_method_3_code_8 : decode jdk_43_method_3_code 8 = .ok (.goto 4, 3) := by decide +kernel
theorem d_jdk_43_method_3_code_12 : decode jdk_43_method_3_code 12 = .ok (.ireturn, 1) := by decide +kernel
theorem pn_java_lang_StringLatin1 : plainName "java/lang/StringLatin1" = true := by first | (simp [plainName, overriddenIn]; done) | decide +kernel
theorem ef_rmCanE (m : MethodId) (x0 : Int32) : entryFrame m #[(.int x0)] 1 = mkF m 0 #[.val (.int x0)] [] := by first | (simp [entryFrame, mkF, argsToLocals, Value.category]; done) | rfl
set_option maxRecDepth 65536 in
set_option maxHeartbeats 40000000 in
theorem rmCanE (l : Launch) (Z : State) (a0 : Array Value) (hw : ∀ d ∈ tables_1, d.before a0 Z = true) (ws : List Jvm.Cond) (ch : Int32) (h0 : Heap) (n0 : Nat) (Z0 : n0 ≤ h0.size) (hc : C8 ch) :
    MetFree l (⟨"java/lang/StringLatin1", "canEncode", "(C)Z"⟩ : MethodName) (head1 (Jvm.Cond.code (⟨"java/lang/StringLatin1", "canEncode", "(C)Z"⟩ : MethodName) jdk_43_method_3_code 1 (some .boolean) :: ws) ({ frames := 0, cells := 0, slots := 0, locals := 0 } : Room)) (fun aa U => aa = #[(.int ch)] ∧ Z.Warmed39 U.vm ∧ U.heap = h0) (fun _ _ _ _ _ => True) (fun _ U o U' => ∃ v L, o = .returned v ∧ QcanE Z  h0 n0 v U'.heap L ∧ FrameEnd U o U' L ({ frames := 0, cells := 0, slots := 0, locals := 0 } : Room).cells ({ frames := 0, cells := 0, slots := 0, locals := 0 } : Room).slots) := by
  refine MetFree.of_bodySF (plainFor_of_name pn_java_lang_StringLatin1) hisR ?_
  intro p e s m args below meth c s₁ Bd hml0 hP hK
  obtain ⟨rfl, hZ, hh⟩ := hP
  have hx := Bd.exec
  have hby := Bd.bytes
  have hml : c.maxLocals = 1 := hml0
  have hown : s.vm.findClass "java/lang/StringLatin1" = some m.cls := findClass_of_methodNamed Bd.named
  have hnm := (name_of_methodNamed Bd.named Bd.method).1
  have X0 : Stand p l e ({ frames := 0, cells := 0, slots := 0, locals := 0 } : Room) s m #[(.int ch)] below meth c s₁ [] 0 0 := Stand.of_body Bd
  have e0 : s₁.heap = h0 := by rw [← hh, Bd.state]; rfl
  have N0 := Fr.nil n0
  have K0 := Keep.refl h0 []
  obtain ⟨S0, hS0⟩ : ∃ z, z = s₁.setTop (entryFrame m #[(.int ch)] 1) := ⟨_, rfl⟩
  rw [← hS0]
  have c0 : Steps p.tables e below S0 (s₁.setTop (mkF m 0 #[.val (.int ch)] [])) := by
    rw [hS0]; exact castTop (ef_rmCanE m ch) (Steps.refl _)
  have c1 : Steps p.tables e below S0 (s₁.setTop (mkF m 12 #[.val (.int ch)] [(.int (1 : Int32))])) := c0.trans (by
    show Steps p.tables e below (s₁.setTop (mkF m 0 #[.val (.int ch)] [])) _
    refine XS.iloadN X0.here hx rfl (hb hby d_jdk_43_method_3_code_0) rfl ?_
    show Steps p.tables e below (s₁.setTop (mkF m 1 #[.val (.int ch)] [(.int ch)])) _
    refine XS.sipush X0.here hx rfl (hb hby d_jdk_43_method_3_code_1) ?_
    show Steps p.tables e below (s₁.setTop (mkF m 4 #[.val (.int ch)] [(.int (255 : Int32)), (.int ch)])) _
    refine XS.icmpNo X0.here hx rfl (hb hby d_jdk_43_method_3_code_4) rfl (flt hc.2).2.2.1 ?_
    show Steps p.tables e below (s₁.setTop (mkF m 7 #[.val (.int ch)] [])) _
    refine XS.iconst X0.here hx rfl (hb hby d_jdk_43_method_3_code_7) ?_
    show Steps p.tables e below (s₁.setTop (mkF m 8 #[.val (.int ch)] [(.int (1 : Int32))])) _
    refine XS.goto X0.here hx rfl (pc0 := 8) (pc' := 12) rfl (hb hby d_jdk_43_method_3_code_8) (by decide) (by decide) ?_
    exact Steps.refl _)
  obtain ⟨fs, hr, hrun, hended, hW, hsame⟩ := X0.leave (v := some (.int (1 : Int32))) (fun h => by rw [Bd.returns] at h; cases h)
  refine ⟨_, _, c1.trans (retOut X0 hx Bd.returns rfl (Or.inl ⟨rfl, by simp, _, rfl⟩) (hb hby d_jdk_43_method_3_code_12) hr), hrun, hended, _, _, rfl, ?_, ⟨_, rfl⟩, hW, hsame.mono (by decide) (by decide)⟩
  show QcanE Z  h0 n0 _ s₁.heap _
  rw [e0]
  exact ⟨rfl, N0, rfl⟩

def QtoB (Z : State) (c : Int32) (h0 : Heap) (n0 : Nat) (v : Option Value) (h : Heap) (L : List Loc) : Prop := ∃ (t : Addr) (kb : ClassId), v = some (.ref t) ∧ Fr n0 L ∧ Keep h0 h [] ∧ h0.size ≤ t ∧ Arv Z h t kb .byte (1 : Int32) [.int c.toInt8.toInt32] (.int 0)

theorem d_jdk_43_method_46_code_0 : decode jdk_43_method_46_code 0 = .ok (.iconst 1, 1) := by decide +kernel
theorem d_jdk_43_method_46_code_1 : decode jdk_43_method_46_code 1 = .ok (.newarray .byte, 2) := by decide +kernel
theorem d_jdk_43_method_46_code_3 : decode jdk_43_method_46_code 3 = .ok (.dup, 1) := by decide +kernel
theorem d_jdk_43_method_46_code_4 : decode jdk_43_method_46_code 4 = .ok (.iconst 0, 1) := by decide +kernel
theorem d_jdk_43_method_46_code_5 : decode jdk_43_method_46_code 5 = .ok (.iload_n 0, 1) := by decide +kernel
theorem d_jdk_43_method_46_code_6 : decode jdk_43_method_46_code 6 = .ok (.i2b, 1) := by decide +kernel
theorem d_jdk_43_method_46_code_7 : decode jdk_43_method_46_code 7 = .ok (.bastore, 1) := by decide +kernel
theorem d_jdk_43_method_46_code_8 : decode jdk_43_method_46_code 8 = .ok (.areturn, 1) := by decide +kernel
theorem ef_rmToB (m : MethodId) (x0 : Int32) : entryFrame m #[(.int x0)] 1 = mkF m 0 #[.val (.int x0)] [] := by first | (simp [entryFrame, mkF, argsToLocals, Value.category]; done) | rfl
set_option maxRecDepth 65536 in
set_option maxHeartbeats 40000000 in
theorem rmToB (l : Launch) (Z : State) (a0 : Array Value) (hw : ∀ d ∈ tables_1, d.before a0 Z = true) (ws : List Jvm.Cond) (ch : Int32) (h0 : Heap) (n0 : Nat) (Z0 : n0 ≤ h0.size)  :
    MetFree l (⟨"java/lang/StringLatin1", "toBytes", "(C)[B"⟩ : MethodName) (head1 (Jvm.Cond.code (⟨"java/lang/StringLatin1", "toBytes", "(C)[B"⟩ : MethodName) jdk_43_method_46_code 1 (some (.array .byte)) :: ws) ({ frames := 0, cells := 1, slots := 1, locals := 0 } : Room)) (fun aa U => aa = #[(.int ch)] ∧ Z.Warmed39 U.vm ∧ U.heap = h0) (fun _ _ _ _ _ => True) (fun _ U o U' => ∃ v L, o = .returned v ∧ QtoB Z ch h0 n0 v U'.heap L ∧ FrameEnd U o U' L ({ frames := 0, cells := 1, slots := 1, locals := 0 } : Room).cells ({ frames := 0, cells := 1, slots := 1, locals := 0 } : Room).slots) := by
  refine MetFree.of_bodySF (plainFor_of_name pn_java_lang_StringLatin1) hisR ?_
  intro p e s m args below meth c s₁ Bd hml0 hP hK
  obtain ⟨rfl, hZ, hh⟩ := hP
  have hx := Bd.exec
  have hby := Bd.bytes
  have hml : c.maxLocals = 1 := hml0
  have hown : s.vm.findClass "java/lang/StringLatin1" = some m.cls := findClass_of_methodNamed Bd.named
  have hnm := (name_of_methodNamed Bd.named Bd.method).1
  have X0 : Stand p l e ({ frames := 0, cells := 1, slots := 1, locals := 0 } : Room) s m #[(.int ch)] below meth c s₁ [] 0 0 := Stand.of_body Bd
  have e0 : s₁.heap = h0 := by rw [← hh, Bd.state]; rfl
  have N0 := Fr.nil n0
  have K0 := Keep.refl h0 []
  obtain ⟨S0, hS0⟩ : ∃ z, z = s₁.setTop (entryFrame m #[(.int ch)] 1) := ⟨_, rfl⟩
  rw [← hS0]
  have c0 : Steps p.tables e below S0 (s₁.setTop (mkF m 0 #[.val (.int ch)] [])) := by
    rw [hS0]; exact castTop (ef_rmToB m ch) (Steps.refl _)
  have c1 : Steps p.tables e below S0 (s₁.setTop (mkF m 1 #[.val (.int ch)] [(.int (1 : Int32))])) := c0.trans (by
    show Steps p.tables e below (s₁.setTop (mkF m 0 #[.val (.int ch)] [])) _
    refine XS.iconst X0.here hx rfl (hb hby d_jdk_43_method_46_code_0) ?_
    exact Steps.refl _)
  obtain ⟨T2, h2, k2, X2, e2, E2, A2, st2⟩ := newP X0 hx hZ (hw _ (List.mem_of_getElem? (i := 85) rfl)) e0 (g := (mkF m 1 #[.val (.int ch)] [(.int (1 : Int32))])) rfl (hb hby d_jdk_43_method_46_code_1) rfl (by decide) (cap := 1) (by decide) (by decide) (by decide) (by decide)
  obtain ⟨b2, g2⟩ : ∃ z, z = h0.size := ⟨_, rfl⟩
  rw [← g2] at A2 st2
  have c3 : Steps p.tables e below S0 (T2.setTop (mkF m 3 #[.val (.int ch)] [(.ref b2)])) := c1.trans (st2 _ (Steps.refl _))
  have z2 : n0 ≤ h2.size := Nat.le_trans Z0 E2.1
  have K2 := K0.ext E2
  have V2 : Arv Z h2 b2 k2 .byte (1 : Int32) [(.int (0 : Int32))] (.int (0 : Int32)) := (Arv.new A2 (by decide)).pad (pad_rep [] (.int (0 : Int32)) 1)
  have lt_b2 : b2 < h2.size := V2.lt
  have c4 : Steps p.tables e below S0 (T2.setTop (mkF m 7 #[.val (.int ch)] [(.int (ch.toInt8.toInt32)), (.int (0 : Int32)), (.ref b2), (.ref b2)])) := c3.trans (by
    show Steps p.tables e below (T2.setTop (mkF m 3 #[.val (.int ch)] [(.ref b2)])) _
    refine XS.dup X2.here hx rfl (hb hby d_jdk_43_method_46_code_3) rfl rfl ?_
    show Steps p.tables e below (T2.setTop (mkF m 4 #[.val (.int ch)] [(.ref b2), (.ref b2)])) _
    refine XS.iconst X2.here hx rfl (hb hby d_jdk_43_method_46_code_4) ?_
    show Steps p.tables e below (T2.setTop (mkF m 5 #[.val (.int ch)] [(.int (0 : Int32)), (.ref b2), (.ref b2)])) _
    refine XS.iloadN X2.here hx rfl (hb hby d_jdk_43_method_46_code_5) rfl ?_
    show Steps p.tables e below (T2.setTop (mkF m 6 #[.val (.int ch)] [(.int ch), (.int (0 : Int32)), (.ref b2), (.ref b2)])) _
    refine XS.i2b X2.here hx rfl (hb hby d_jdk_43_method_46_code_6) rfl ?_
    exact Steps.refl _)
  obtain ⟨cl5, Ar5, q5, S5, Nn5, Ha5, G5⟩ := id V2
  obtain ⟨T5, h5, X5, e5, W5, st5⟩ := stB X2 hx hZ e2 Ar5 (j := (0 : Int32)) (inb_of S5 ⟨by decide, by decide⟩) (g := (mkF m 7 #[.val (.int ch)] [(.int (ch.toInt8.toInt32)), (.int (0 : Int32)), (.ref b2), (.ref b2)])) rfl rfl (hb hby d_jdk_43_method_46_code_7)
  have V5 : Arv Z h5 b2 k2 .byte (1 : Int32) [(.int ((ch.toInt8.toInt32).toInt8.toInt32))] (.int (0 : Int32)) := Arv.set Ar5 q5 S5 Nn5 Ha5 G5 (fits_nar_byte _) W5 0 rfl (Nat.le_of_ble_eq_true rfl)
  have c6 : Steps p.tables e below S0 (T5.setTop (mkF m 8 #[.val (.int ch)] [(.ref b2)])) := c4.trans (st5 _ (Steps.refl _))
  have N5 := Fr.snoc X5 N0 (Nat.le_trans Z0 (Nat.le_trans K0.1 (Nat.le_of_eq g2.symm)))
  have z5 : n0 ≤ h5.size := Nat.le_trans z2 (Keep.of_wr W5).1
  have K5 := K2.wr W5 (Or.inr (Nat.le_trans K0.1 (Nat.le_of_eq g2.symm)))
  obtain ⟨fs, hr, hrun, hended, hW, hsame⟩ := X5.leave (v := some (.ref b2)) (fun h => by rw [Bd.returns] at h; cases h)
  refine ⟨_, _, c6.trans (retOut X5 hx Bd.returns rfl (Or.inr (Or.inr (Or.inr (Or.inr ⟨rfl, rfl, rfl⟩)))) (hb hby d_jdk_43_method_46_code_8) hr), hrun, hended, _, _, rfl, ?_, ⟨_, rfl⟩, hW, hsame.mono (by decide) (by decide)⟩
  show QtoB Z ch h0 n0 _ T5.heap _
  rw [e5]
  exact ⟨_, _, rfl, N5, K5, (Nat.le_trans K0.1 (Nat.le_of_eq g2.symm)), own_b8 ch ▸ V5⟩

def QiBB (Z : State) (x t : Addr) (h0 : Heap) (n0 : Nat) (v : Option Value) (h : Heap) (L : List Loc) : Prop := v = none ∧ Fr n0 L ∧ Keep h0 h [x] ∧ Exa Z h x "java/lang/String" ∧ Fld Z h x "java/lang/String" "value" "[B" (.ref t) ∧ Fld Z h x "java/lang/String" "coder" "B" (.int 0)

theorem d_jdk_42_method_151_code_0 : decode jdk_42_method_151_code 0 = .ok (.aload_n 0, 1) := by decide +kernel
theorem d_jdk_42_method_151_code_1 : decode jdk_42_method_151_code 1 = .ok (.invokespecial 1, 3) := by decide +kernel
theorem d_jdk_42_method_151_code_4 : decode jdk_42_method_151_code 4 = .ok (.aload_n 0, 1) := by decide +kernel
theorem d_jdk_42_method_151_code_5 : decode jdk_42_method_151_code 5 = .ok (.aload_n 1, 1) := by decide +kernel
theorem d_jdk_42_method_151_code_6 : decode jdk_42_method_151_code 6 = .ok (.putfield 9, 3) := by decide +kernel
theorem d_jdk_42_method_151_code_9 : decode jdk_42_method_151_code 9 = .ok (.aload_n 0, 1) := by decide +kernel
theorem d_jdk_42_method_151_code_10 : decode jdk_42_method_151_code 10 = .ok (.iload_n 2, 1) := by decide +kernel
theorem d_jdk_42_method_151_code_11 : decode jdk_42_method_151_code 11 = .ok (.putfield 15, 3) := by decide +kernel
theorem d_jdk_42_method_151_code_14 : decode jdk_42_method_151_code 14 = .ok (.return_, 1) := by decide +kernel
theorem pn_java_lang_String : plainName "java/lang/String" = true := by first | (simp [plainName, overriddenIn]; done) | decide +kernel
theorem ef_rmIBB (m : MethodId) (x0 : Addr) (x1 : Addr) (x2 : Int32) : entryFrame m #[(.ref x0), (.ref x1), (.int x2)] 3 = mkF m 0 #[.val (.ref x0), .val (.ref x1), .val (.int x2)] [] := by first | (simp [entryFrame, mkF, argsToLocals, Value.category]; done) | rfl
set_option maxRecDepth 65536 in
set_option maxHeartbeats 40000000 in
theorem rmIBB (l : Launch) (Z : State) (a0 : Array Value) (hw : ∀ d ∈ tables_1, d.before a0 Z = true) (ws : List Jvm.Cond) (x t : Addr) (v0 c0 : Value) (h0 : Heap) (n0 : Nat) (Z0 : n0 ≤ h0.size) (g_x : n0 ≤ x) (Ex : Exa Z h0 x "java/lang/String") (Fv : Fld Z h0 x "java/lang/String" "value" "[B" v0) (Fc : Fld Z h0 x "java/lang/String" "coder" "B" c0) :
    MetFree l (⟨"java/lang/String", "<init>", "([BB)V"⟩ : MethodName) (head1 (Jvm.Cond.code (⟨"java/lang/String", "<init>", "([BB)V"⟩ : MethodName) jdk_42_method_151_code 3 (none) :: ws) ({ frames := 1, cells := 0, slots := 0, locals := 12 } : Room)) (fun aa U => aa = #[(.ref x), (.ref t), (.int (0 : Int32))] ∧ Z.Warmed39 U.vm ∧ U.heap = h0) (fun _ _ _ _ _ => True) (fun _ U o U' => ∃ v L, o = .returned v ∧ QiBB Z x t h0 n0 v U'.heap L ∧ FrameEnd U o U' L ({ frames := 1, cells := 0, slots := 0, locals := 12 } : Room).cells ({ frames := 1, cells := 0, slots := 0, locals := 12 } : Room).slots) := by
  refine MetFree.of_bodySF (plainFor_of_name pn_java_lang_String) hisR ?_
  intro p e s m args below meth c s₁ Bd hml0 hP hK
  obtain ⟨rfl, hZ, hh⟩ := hP
  have hx := Bd.exec
  have hby := Bd.bytes
  have hml : c.maxLocals = 3 := hml0
  have hown : s.vm.findClass "java/lang/String" = some m.cls := findClass_of_methodNamed Bd.named
  have hnm := (name_of_methodNamed Bd.named Bd.method).1
  have X0 : Stand p l e ({ frames := 1, cells := 0, slots := 0, locals := 12 } : Room) s m #[(.ref x), (.ref t), (.int (0 : Int32))] below meth c s₁ [] 0 0 := Stand.of_body Bd
  have e0 : s₁.heap = h0 := by rw [← hh, Bd.state]; rfl
  have N0 := Fr.nil n0
  have K0 := Keep.refl h0 [x]
  obtain ⟨S0, hS0⟩ : ∃ z, z = s₁.setTop (entryFrame m #[(.ref x), (.ref t), (.int (0 : Int32))] 3) := ⟨_, rfl⟩
  rw [← hS0]
  have c0 : Steps p.tables e below S0 (s₁.setTop (mkF m 0 #[.val (.ref x), .val (.ref t), .val (.int (0 : Int32))] [])) := by
    rw [hS0]; exact castTop (ef_rmIBB m x t (0 : Int32)) (Steps.refl _)
  have c1 : Steps p.tables e below S0 (s₁.setTop (mkF m 1 #[.val (.ref x), .val (.ref t), .val (.int (0 : Int32))] [(.ref x)])) := c0.trans (by
    show Steps p.tables e below (s₁.setTop (mkF m 0 #[.val (.ref x), .val (.ref t), .val (.int (0 : Int32))] [])) _
    refine XS.aloadN X0.here hx rfl (hb hby d_jdk_42_method_151_code_0) rfl rfl ?_
    exact Steps.refl _)
  obtain ⟨T2, X2, e2, st2⟩ := initO X0 hx hZ hown (hw _ (List.mem_of_getElem? (i := 90) rfl)) (hw _ (List.mem_of_getElem? (i := 91) rfl)) (hw _ (List.mem_of_getElem? (i := 92) rfl)) e0 (g := (mkF m 1 #[.val (.ref x), .val (.ref t), .val (.int (0 : Int32))] [(.ref x)])) rfl (by rw [hml]; rfl) rfl (hb hby d_jdk_42_method_151_code_1) (by decide) (W := 0) (by show 2 * 0 + _ ≤ _; exact Nat.le_of_eq rfl) (by decide)
  have c3 : Steps p.tables e below S0 (T2.setTop (mkF m 4 #[.val (.ref x), .val (.ref t), .val (.int (0 : Int32))] [])) := c1.trans (st2 _ (Steps.refl _))
  have c4 : Steps p.tables e below S0 (T2.setTop (mkF m 6 #[.val (.ref x), .val (.ref t), .val (.int (0 : Int32))] [(.ref t), (.ref x)])) := c3.trans (by
    show Steps p.tables e below (T2.setTop (mkF m 4 #[.val (.ref x), .val (.ref t), .val (.int (0 : Int32))] [])) _
    refine XS.aloadN X2.here hx rfl (hb hby d_jdk_42_method_151_code_4) rfl rfl ?_
    show Steps p.tables e below (T2.setTop (mkF m 5 #[.val (.ref x), .val (.ref t), .val (.int (0 : Int32))] [(.ref x)])) _
    refine XS.aloadN X2.here hx rfl (hb hby d_jdk_42_method_151_code_5) rfl rfl ?_
    exact Steps.refl _)
  obtain ⟨T5, h5, X5, e5, W5, st5⟩ := putF X2 hx hZ hown (host := "") (Or.inl (hw _ (List.mem_of_getElem? (i := 93) rfl))) Via.refl e2 Fv Ex (Or.inr ⟨(hw _ (List.mem_of_getElem? (i := 94) rfl)), rfl, hnm⟩) (hw _ (List.mem_of_getElem? (i := 81) rfl)) (ty := (.array .byte)) (by decide) rfl rfl (g := (mkF m 6 #[.val (.ref x), .val (.ref t), .val (.int (0 : Int32))] [(.ref t), (.ref x)])) rfl rfl (hb hby d_jdk_42_method_151_code_6)
  have c6 : Steps p.tables e below S0 (T5.setTop (mkF m 9 #[.val (.ref x), .val (.ref t), .val (.int (0 : Int32))] [])) := c4.trans (st5 _ (Steps.refl _))
  have N5 := Fr.snoc X5 N0 g_x
  have Fw5 := Fv.same W5
  have z5 : n0 ≤ h5.size := Nat.le_trans Z0 (Keep.of_wr W5).1
  have K5 := K0.wr W5 (Or.inl (by simp))
  have c7 : Steps p.tables e below S0 (T5.setTop (mkF m 11 #[.val (.ref x), .val (.ref t), .val (.int (0 : Int32))] [(.int (0 : Int32)), (.ref x)])) := c6.trans (by
    show Steps p.tables e below (T5.setTop (mkF m 9 #[.val (.ref x), .val (.ref t), .val (.int (0 : Int32))] [])) _
    refine XS.aloadN X5.here hx rfl (hb hby d_jdk_42_method_151_code_9) rfl rfl ?_
    show Steps p.tables e below (T5.setTop (mkF m 10 #[.val (.ref x), .val (.ref t), .val (.int (0 : Int32))] [(.ref x)])) _
    refine XS.iloadN X5.here hx rfl (hb hby d_jdk_42_method_151_code_10) rfl ?_
    exact Steps.refl _)
  obtain ⟨T8, h8, X8, e8, W8, st8⟩ := putFN X5 hx hZ hown (hw _ (List.mem_of_getElem? (i := 95) rfl)) Via.refl e5 (Fc.other W5 (Or.inr (slot_ne (Or.inr (hw _ (List.mem_of_getElem? (i := 96) rfl))) (Or.inr (hw _ (List.mem_of_getElem? (i := 94) rfl))) (by decide) (t := .byte) (t' := (.array .byte)) (by decide) (by decide)))) (Ex.wr W5) (Or.inr ⟨(hw _ (List.mem_of_getElem? (i := 96) rfl)), rfl, hnm⟩) (hw _ (List.mem_of_getElem? (i := 81) rfl)) (ty := .byte) (v' := (.int (0 : Int32))) (by decide) rfl rfl (g := (mkF m 11 #[.val (.ref x), .val (.ref t), .val (.int (0 : Int32))] [(.int (0 : Int32)), (.ref x)])) rfl rfl (hb hby d_jdk_42_method_151_code_11)
  have c9 : Steps p.tables e below S0 (T8.setTop (mkF m 14 #[.val (.ref x), .val (.ref t), .val (.int (0 : Int32))] [])) := c7.trans (st8 _ (Steps.refl _))
  have N8 := Fr.snoc X8 N5 g_x
  have Fw8 := (Fc.other W5 (Or.inr (slot_ne (Or.inr (hw _ (List.mem_of_getElem? (i := 96) rfl))) (Or.inr (hw _ (List.mem_of_getElem? (i := 94) rfl))) (by decide) (t := .byte) (t' := (.array .byte)) (by decide) (by decide)))).same W8
  have z8 : n0 ≤ h8.size := Nat.le_trans z5 (Keep.of_wr W8).1
  have K8 := K5.wr W8 (Or.inl (by simp))
  obtain ⟨fs, hr, hrun, hended, hW, hsame⟩ := X8.leave (v := none) (fun h => rfl)
  refine ⟨_, _, c9.trans (X8.returnOut hx Bd.returns (hb hby d_jdk_42_method_151_code_14) hr), hrun, hended, _, _, rfl, ?_, ⟨_, rfl⟩, hW, hsame.mono (by decide) (by decide)⟩
  show QiBB Z x t h0 n0 _ T8.heap _
  rw [e8]
  exact ⟨rfl, N8, K8, ((Ex.wr W5).wr W8), (Fw5.other W8 (Or.inr (slot_ne (Or.inr (hw _ (List.mem_of_getElem? (i := 94) rfl))) (Or.inr (hw _ (List.mem_of_getElem? (i := 96) rfl))) (by decide) (t := (.array .byte)) (t' := .byte) (by decide) (by decide)))), Fw8⟩

def QvalC (Z : State) (c : Int32) (h0 : Heap) (n0 : Nat) (v : Option Value) (h : Heap) (L : List Loc) : Prop := ∃ (x t : Addr) (kb : ClassId), v = some (.ref x) ∧ Fr n0 L ∧ Keep h0 h [] ∧ h0.size ≤ x ∧ h0.size ≤ t ∧ OStr Z h x t kb [c]

theorem d_jdk_42_method_139_code_0 : decode jdk_42_method_139_code 0 = .ok (.getstatic 38, 3) := by decide +kernel
theorem d_jdk_42_method_139_code_3 : decode jdk_42_method_139_code 3 = .ok (.ifCond .eq 23, 3) := by decide +kernel
theorem d_jdk_42_method_139_code_6 : decode jdk_42_method_139_code 6 = .ok (.iload_n 0, 1) := by decide +kernel
theorem pd_oCcZ : parseMethodDescriptor "(C)Z" = some ⟨[.char], some .boolean⟩ := by decide +kernel
theorem d_jdk_42_method_139_code_7 : decode jdk_42_method_139_code 7 = .ok (.invokestatic 1015, 3) := by decide +kernel
theorem d_jdk_42_method_139_code_10 : decode jdk_42_method_139_code 10 = .ok (.ifCond .eq 16, 3) := by decide +kernel
theorem d_jdk_42_method_139_code_13 : decode jdk_42_method_139_code 13 = .ok (.new 10, 3) := by decide +kernel
theorem d_jdk_42_method_139_code_16 : decode jdk_42_method_139_code 16 = .ok (.dup, 1) := by decide +kernel
theorem d_jdk_42_method_139_code_17 : decode jdk_42_method_139_code 17 = .ok (.iload_n 0, 1) := by decide +kernel
theorem pd_oCcaB : parseMethodDescriptor "(C)[B" = some ⟨[.char], some (.array .byte)⟩ := by decide +kernel
theorem d_jdk_42_method_139_code_18 : decode jdk_42_method_139_code 18 = .ok (.invokestatic 1018, 3) := by decide +kernel
theorem d_jdk_42_method_139_code_21 : decode jdk_42_method_139_code 21 = .ok (.iconst 0, 1) := by decide +kernel
theorem pd_oaBBcV : parseMethodDescriptor "([BB)V" = some ⟨[(.array .byte), .byte], none⟩ := by decide +kernel
theorem d_jdk_42_method_139_code_22 : decode jdk_42_method_139_code 22 = .ok (.invokespecial 209, 3) := by decide +kernel
theorem d_jdk_42_method_139_code_25 : decode jdk_42_method_139_code 25 = .ok (.areturn, 1) := by decide +kernel
theorem ef_rmValC (m : MethodId) (x0 : Int32) : entryFrame m #[(.int x0)] 1 = mkF m 0 #[.val (.int x0)] [] := by first | (simp [entryFrame, mkF, argsToLocals, Value.category]; done) | rfl
set_option maxRecDepth 65536 in
set_option maxHeartbeats 40000000 in
theorem rmValC (l : Launch) (Z : State) (a0 : Array Value) (hw : ∀ d ∈ tables_1, d.before a0 Z = true) (ws : List Jvm.Cond) (ch : Int32) (G1 : Int32) (h0 : Heap) (n0 : Nat) (Z0 : n0 ≤ h0.size) (hc : C8 ch) (O2 : Sta Z Z.heap "java/lang/String" "COMPACT_STRINGS" "Z" (.int G1)) (P5 : ¬ G1 = 0) (X00 : Old Z n0 h0) :
    MetFree l (⟨"java/lang/String", "valueOf", "(C)Ljava/lang/String;"⟩ : MethodName) (head1 (Jvm.Cond.code (⟨"java/lang/String", "valueOf", "(C)Ljava/lang/String;"⟩ : MethodName) jdk_42_method_139_code 1 (some (.object "java/lang/String")) :: ws) ({ frames := 2, cells := 2, slots := 5, locals := 27 } : Room)) (fun aa U => aa = #[(.int ch)] ∧ Z.Warmed39 U.vm ∧ U.heap = h0) (fun _ _ _ _ _ => True) (fun _ U o U' => ∃ v L, o = .returned v ∧ QvalC Z ch h0 n0 v U'.heap L ∧ FrameEnd U o U' L ({ frames := 2, cells := 2, slots := 5, locals := 27 } : Room).cells ({ frames := 2, cells := 2, slots := 5, locals := 27 } : Room).slots) := by
  refine MetFree.of_bodySF (plainFor_of_name pn_java_lang_String) hisR ?_
  intro p e s m args below meth c s₁ Bd hml0 hP hK
  obtain ⟨rfl, hZ, hh⟩ := hP
  have hx := Bd.exec
  have hby := Bd.bytes
  have hml : c.maxLocals = 1 := hml0
  have hown : s.vm.findClass "java/lang/String" = some m.cls := findClass_of_methodNamed Bd.named
  have hnm := (name_of_methodNamed Bd.named Bd.method).1
  have X0 : Stand p l e ({ frames := 2, cells := 2, slots := 5, locals := 27 } : Room) s m #[(.int ch)] below meth c s₁ [] 0 0 := Stand.of_body Bd
  have e0 : s₁.heap = h0 := by rw [← hh, Bd.state]; rfl
  have N0 := Fr.nil n0
  have K0 := Keep.refl h0 []
  obtain ⟨S0, hS0⟩ : ∃ z, z = s₁.setTop (entryFrame m #[(.int ch)] 1) := ⟨_, rfl⟩
  rw [← hS0]
  have c0 : Steps p.tables e below S0 (s₁.setTop (mkF m 0 #[.val (.int ch)] [])) := by
    rw [hS0]; exact castTop (ef_rmValC m ch) (Steps.refl _)
  obtain ⟨T1, X1, e1, st1⟩ := getS2 X0 hx hZ hown (host := "") (Or.inl (hw _ (List.mem_of_getElem? (i := 75) rfl))) Via.refl e0 (O2.ext X00.2) (g := (mkF m 0 #[.val (.int ch)] [])) rfl (hb hby d_jdk_42_method_139_code_0)
  have c2 : Steps p.tables e below S0 (T1.setTop (mkF m 3 #[.val (.int ch)] [(.int G1)])) := c0.trans (st1 _ (Steps.refl _))
  have c3 : Steps p.tables e below S0 (T1.setTop (mkF m 7 #[.val (.int ch)] [(.int ch)])) := c2.trans (by
    show Steps p.tables e below (T1.setTop (mkF m 3 #[.val (.int ch)] [(.int G1)])) _
    refine XS.ifNo X1.here hx rfl (hb hby d_jdk_42_method_139_code_3) rfl ((if0 _ _).trans (feq P5).1) ?_
    show Steps p.tables e below (T1.setTop (mkF m 6 #[.val (.int ch)] [])) _
    refine XS.iloadN X1.here hx rfl (hb hby d_jdk_42_method_139_code_6) rfl ?_
    exact Steps.refl _)
  obtain ⟨_, _, ⟨T4, L4, kk4, nn4⟩, -, X4, ⟨Lc4, hQ4, l4, y4, z4⟩, st4⟩ := Jvm.LawKit.callS X1 hx (y := (⟨"java/lang/StringLatin1", "canEncode", "(C)Z"⟩ : MethodName)) hown (mvT hZ (hw _ (List.mem_of_getElem? (i := 76) rfl))) (mvT hZ (hw _ (List.mem_of_getElem? (i := 77) rfl))) (mvT hZ (hw _ (List.mem_of_getElem? (i := 78) rfl))) (mvT hZ (hw _ (List.mem_of_getElem? (i := 79) rfl))) (by decide) (backOf (W := 0) (rmCanE l Z a0 hw [] ch h0 n0 Z0 hc) hZ (hw _ (List.mem_of_getElem? (i := 79) rfl)) (hw _ (List.mem_of_getElem? (i := 78) rfl)) (by decide) (by decide)) (g := (mkF m 7 #[.val (.int ch)] [(.int ch)])) rfl (by rw [hml]; rfl) (argsL := [(.int ch)]) (rest := []) (lenOf pd_oCcZ rfl) rfl (by show 2 * 0 + _ ≤ _; exact Nat.le_of_eq rfl) (hb hby d_jdk_42_method_139_code_7) (fun _ _ => ⟨rfl, e1, (by decide : 0 + 0 ≤ _), (by decide : 0 + 0 ≤ _)⟩)
  dsimp only [Pt.U, Pt.locs, Pt.cells, Pt.slots] at X4 l4 y4 z4 st4 hQ4
  subst l4 y4 z4
  obtain ⟨rfl, Nq4, eq4⟩ := hQ4
  have c5 : Steps p.tables e below S0 (T4.setTop (mkF m 10 #[.val (.int ch)] [(.int (1 : Int32))])) := c3.trans (st4 _ (Steps.refl _))
  have N4 := Fr.app N0 Nq4
  have c6 : Steps p.tables e below S0 (T4.setTop (mkF m 13 #[.val (.int ch)] [])) := c5.trans (by
    show Steps p.tables e below (T4.setTop (mkF m 10 #[.val (.int ch)] [(.int (1 : Int32))])) _
    refine XS.ifNo X4.here hx rfl (hb hby d_jdk_42_method_139_code_10) rfl ((if0 _ _).trans (feq (by decide : ¬ (1 : Int32) = 0)).1) ?_
    exact Steps.refl _)
  obtain ⟨T7, h7, X7, e7, E7, A7, D7, -, st7⟩ := newO X4 hx hZ hown (hw _ (List.mem_of_getElem? (i := 80) rfl)) (hw _ (List.mem_of_getElem? (i := 81) rfl)) (hw _ (List.mem_of_getElem? (i := 73) rfl)) eq4 (g := (mkF m 13 #[.val (.int ch)] [])) rfl (hb hby d_jdk_42_method_139_code_13) (by decide) (by decide)
  obtain ⟨b7, g7⟩ : ∃ z, z = h0.size := ⟨_, rfl⟩
  rw [← g7] at A7 D7 st7
  have c8 : Steps p.tables e below S0 (T7.setTop (mkF m 16 #[.val (.int ch)] [(.ref b7)])) := c6.trans (st7 _ (Steps.refl _))
  have z7 : n0 ≤ h7.size := Nat.le_trans Z0 E7.1
  have K7 := K0.ext E7
  have lt_b7 : b7 < h7.size := A7.lt
  have F7_value : Fld Z h7 b7 "java/lang/String" "value" "[B" .null := D7 (Or.inr (hw _ (List.mem_of_getElem? (i := 94) rfl))) (ty := (.array .byte)) (by decide)
  have F7_coder : Fld Z h7 b7 "java/lang/String" "coder" "B" (.int (0 : Int32)) := D7 (Or.inr (hw _ (List.mem_of_getElem? (i := 96) rfl))) (ty := .byte) (by decide)
  have c9 : Steps p.tables e below S0 (T7.setTop (mkF m 18 #[.val (.int ch)] [(.int ch), (.ref b7), (.ref b7)])) := c8.trans (by
    show Steps p.tables e below (T7.setTop (mkF m 16 #[.val (.int ch)] [(.ref b7)])) _
    refine XS.dup X7.here hx rfl (hb hby d_jdk_42_method_139_code_16) rfl rfl ?_
    show Steps p.tables e below (T7.setTop (mkF m 17 #[.val (.int ch)] [(.ref b7), (.ref b7)])) _
    refine XS.iloadN X7.here hx rfl (hb hby d_jdk_42_method_139_code_17) rfl ?_
    exact Steps.refl _)
  obtain ⟨_, _, ⟨T10, L10, kk10, nn10⟩, -, X10, ⟨Lc10, hQ10, l10, y10, z10⟩, st10⟩ := Jvm.LawKit.callS X7 hx (y := (⟨"java/lang/StringLatin1", "toBytes", "(C)[B"⟩ : MethodName)) hown (mvT hZ (hw _ (List.mem_of_getElem? (i := 82) rfl))) (mvT hZ (hw _ (List.mem_of_getElem? (i := 83) rfl))) (mvT hZ (hw _ (List.mem_of_getElem? (i := 78) rfl))) (mvT hZ (hw _ (List.mem_of_getElem? (i := 84) rfl))) (by decide) (backOf (W := 2) (rmToB l Z a0 hw [] ch h7 n0 z7) hZ (hw _ (List.mem_of_getElem? (i := 84) rfl)) (hw _ (List.mem_of_getElem? (i := 78) rfl)) (by decide) (by decide)) (g := (mkF m 18 #[.val (.int ch)] [(.int ch), (.ref b7), (.ref b7)])) rfl (by rw [hml]; rfl) (argsL := [(.int ch)]) (rest := [(.ref b7), (.ref b7)]) (lenOf pd_oCcaB rfl) rfl (by show 2 * 0 + _ ≤ _; exact Nat.le_of_eq rfl) (hb hby d_jdk_42_method_139_code_18) (fun _ _ => ⟨rfl, e7, (by decide : 1 + 1 ≤ _), (by decide : 4 + 1 ≤ _)⟩)
  dsimp only [Pt.U, Pt.locs, Pt.cells, Pt.slots] at X10 l10 y10 z10 st10 hQ10
  subst l10 y10 z10
  obtain ⟨t10, kb10, rfl, Nq10, Kq10, gt10, Vt10⟩ := hQ10
  have c11 : Steps p.tables e below S0 (T10.setTop (mkF m 21 #[.val (.int ch)] [(.ref t10), (.ref b7), (.ref b7)])) := c9.trans (st10 _ (Steps.refl _))
  have N10 := Fr.app N4 Nq10
  have z10 : n0 ≤ T10.heap.size := Nat.le_trans z7 Kq10.1
  have K10 := K7.trans Kq10 all0
  have lt_t10 := Vt10.lt
  have c12 : Steps p.tables e below S0 (T10.setTop (mkF m 22 #[.val (.int ch)] [(.int (0 : Int32)), (.ref t10), (.ref b7), (.ref b7)])) := c11.trans (by
    show Steps p.tables e below (T10.setTop (mkF m 21 #[.val (.int ch)] [(.ref t10), (.ref b7), (.ref b7)])) _
    refine XS.iconst X10.here hx rfl (hb hby d_jdk_42_method_139_code_21) ?_
    exact Steps.refl _)
  obtain ⟨_, _, ⟨T13, L13, kk13, nn13⟩, -, X13, ⟨Lc13, hQ13, l13, y13, z13⟩, st13⟩ := X10.specialBack hx (y := (⟨"java/lang/String", "<init>", "([BB)V"⟩ : MethodName)) rfl hown (mvT hZ (hw _ (List.mem_of_getElem? (i := 86) rfl))) (mvT hZ (hw _ (List.mem_of_getElem? (i := 87) rfl))) (mvT hZ (hw _ (List.mem_of_getElem? (i := 89) rfl))) (by decide) (backOf (W := 1) (rmIBB l Z a0 hw [] b7 t10 _ _ T10.heap n0 z10 (Nat.le_trans Z0 (Nat.le_trans K0.1 (Nat.le_of_eq g7.symm))) (A7.keep Kq10) (F7_value.keep Kq10 nin0) (F7_coder.keep Kq10 nin0)) hZ (hw _ (List.mem_of_getElem? (i := 89) rfl)) (hw _ (List.mem_of_getElem? (i := 73) rfl)) (by decide) (by decide)) (g := (mkF m 22 #[.val (.int ch)] [(.int (0 : Int32)), (.ref t10), (.ref b7), (.ref b7)])) rfl (by rw [hml]; rfl) (Steps.refl _) (a := b7) (argsL := [(.ref t10), (.int (0 : Int32))]) (rest := [(.ref b7)]) (lenOf pd_oaBBcV rfl) rfl (by show 2 * 0 + _ ≤ _; exact Nat.le_of_eq rfl) (hb hby d_jdk_42_method_139_code_22) (fun _ _ => ⟨rfl, rfl, (by decide : 2 + 0 ≤ _), (by decide : 5 + 0 ≤ _)⟩)
  dsimp only [Pt.U, Pt.locs, Pt.cells, Pt.slots] at X13 l13 y13 z13 st13 hQ13
  subst l13 y13 z13
  obtain ⟨rfl, Nq13, Kq13, Ei13, Fv13, Fc13⟩ := hQ13
  have c14 : Steps p.tables e below S0 (T13.setTop (mkF m 25 #[.val (.int ch)] [(.ref b7)])) := c12.trans (st13)
  have N13 := Fr.app N10 Nq13
  have z13 : n0 ≤ T13.heap.size := Nat.le_trans z10 Kq13.1
  have K13 := K10.trans Kq13 (allS (Or.inr (Nat.le_trans K0.1 (Nat.le_of_eq g7.symm))) all0)
  obtain ⟨fs, hr, hrun, hended, hW, hsame⟩ := X13.leave (v := some (.ref b7)) (fun h => by rw [Bd.returns] at h; cases h)
  refine ⟨_, _, c14.trans (retOut X13 hx Bd.returns rfl (Or.inr (Or.inr (Or.inr (Or.inr ⟨rfl, rfl, rfl⟩)))) (hb hby d_jdk_42_method_139_code_25) hr), hrun, hended, _, _, rfl, ?_, ⟨_, rfl⟩, hW, hsame.mono (by decide) (by decide)⟩
  show QvalC Z ch h0 n0 _ T13.heap _
  exact ⟨_, _, _, rfl, N13, K13, (Nat.le_trans K0.1 (Nat.le_of_eq g7.symm)), (Nat.le_trans K7.1 gt10), Ei13, Fv13, Fc13, (Vt10.keep Kq13 (ninS (Ne.symm (Nat.ne_of_lt (Nat.lt_of_lt_of_le lt_b7 gt10))) nin0)), own_alS hc own_al0, Nat.le_of_ble_eq_true rfl⟩

def Qini (Z : State) (x u : Addr) (cv tv : Value) (h0 : Heap) (n0 : Nat) (v : Option Value) (h : Heap) (L : List Loc) : Prop := v = none ∧ Fr n0 L ∧ Keep h0 h [x] ∧ Exa Z h x "com/example/cabin_audio_policy/cabinaudiopolicy/AudioAttributes" ∧ Fld Z h x "com/example/cabin_audio_policy/cabinaudiopolicy/AudioAttributes" "usage" "Lcom/example/cabin_audio_policy/cabinaudiopolicy/AudioUsage;" (.ref u) ∧ Fld Z h x "com/example/cabin_audio_policy/cabinaudiopolicy/AudioAttributes" "contentType" "Lcom/example/cabin_audio_policy/cabinaudiopolicy/AudioContentType;" cv ∧ Fld Z h x "com/example/cabin_audio_policy/cabinaudiopolicy/AudioAttributes" "tags" "Ljava/lang/String;" tv

theorem d_prog_1_method_1_code_0 : decode prog_1_method_1_code 0 = .ok (.aload_n 0, 1) := by decide +kernel
theorem d_prog_1_method_1_code_1 : decode prog_1_method_1_code 1 = .ok (.invokespecial 1, 3) := by decide +kernel
theorem d_prog_1_method_1_code_4 : decode prog_1_method_1_code 4 = .ok (.aload_n 0, 1) := by decide +kernel
theorem d_prog_1_method_1_code_5 : decode prog_1_method_1_code 5 = .ok (.aload_n 1, 1) := by decide +kernel
theorem d_prog_1_method_1_code_6 : decode prog_1_method_1_code 6 = .ok (.putfield 7, 3) := by decide +kernel
theorem d_prog_1_method_1_code_9 : decode prog_1_method_1_code 9 = .ok (.aload_n 0, 1) := by decide +kernel
theorem d_prog_1_method_1_code_10 : decode prog_1_method_1_code 10 = .ok (.aload_n 2, 1) := by decide +kernel
theorem d_prog_1_method_1_code_11 : decode prog_1_method_1_code 11 = .ok (.putfield 13, 3) := by decide +kernel
theorem d_prog_1_method_1_code_14 : decode prog_1_method_1_code 14 = .ok (.aload_n 0, 1) := by decide +kernel
theorem d_prog_1_method_1_code_15 : decode prog_1_method_1_code 15 = .ok (.aload_n 3, 1) := by decide +kernel
theorem d_prog_1_method_1_code_16 : decode prog_1_method_1_code 16 = .ok (.putfield 17, 3) := by decide +kernel
theorem d_prog_1_method_1_code_19 : decode prog_1_method_1_code 19 = .ok (.return_, 1) := by decide +kernel
theorem pn_com_example_cabin_audio_policy_cabinaudiopolicy_AudioAttributes : plainName "com/example/cabin_audio_policy/cabinaudiopolicy/AudioAttributes" = true := by first | (simp [plainName, overriddenIn]; done) | decide +kernel
theorem ef_rmIni (m : MethodId) (x0 : Addr) (x1 : Addr) (x2 : Value) (x3 : Value) (hx2 : x2.isRef = true) (hx3 : x3.isRef = true): entryFrame m #[(.ref x0), (.ref x1), x2, x3] 4 = mkF m 0 #[.val (.ref x0), .val (.ref x1), .val x2, .val x3] [] := by rcases ref_cases hx2 with rfl | ⟨_, rfl⟩ <;> rcases ref_cases hx3 with rfl | ⟨_, rfl⟩ <;> rfl
set_option maxRecDepth 65536 in
set_option maxHeartbeats 40000000 in
theorem rmIni (l : Launch) (Z : State) (a0 : Array Value) (hw : ∀ d ∈ tables_1, d.before a0 Z = true) (ws : List Jvm.Cond) (x u : Addr) (cv tv : Value) (h0 : Heap) (n0 : Nat) (Z0 : n0 ≤ h0.size) (hcv : cv.isRef = true) (htv : tv.isRef = true) (g_x : n0 ≤ x) (Ex : Exa Z h0 x "com/example/cabin_audio_policy/cabinaudiopolicy/AudioAttributes") (F0 : Fld Z h0 x "com/example/cabin_audio_policy/cabinaudiopolicy/AudioAttributes" "usage" "Lcom/example/cabin_audio_policy/cabinaudiopolicy/AudioUsage;" .null) (F1 : Fld Z h0 x "com/example/cabin_audio_policy/cabinaudiopolicy/AudioAttributes" "contentType" "Lcom/example/cabin_audio_policy/cabinaudiopolicy/AudioContentType;" .null) (F2 : Fld Z h0 x "com/example/cabin_audio_policy/cabinaudiopolicy/AudioAttributes" "tags" "Ljava/lang/String;" .null) :
    MetFree l (⟨"com/example/cabin_audio_policy/cabinaudiopolicy/AudioAttributes", "<init>", "(Lcom/example/cabin_audio_policy/cabinaudiopolicy/AudioUsage;Lcom/example/cabin_audio_policy/cabinaudiopolicy/AudioContentType;Ljava/lang/String;)V"⟩ : MethodName) (head1 (Jvm.Cond.code (⟨"com/example/cabin_audio_policy/cabinaudiopolicy/AudioAttributes", "<init>", "(Lcom/example/cabin_audio_policy/cabinaudiopolicy/AudioUsage;Lcom/example/cabin_audio_policy/cabinaudiopolicy/AudioContentType;Ljava/lang/String;)V"⟩ : MethodName) prog_1_method_1_code 4 (none) :: ws) ({ frames := 1, cells := 0, slots := 0, locals := 12 } : Room)) (fun aa U => aa = #[(.ref x), (.ref u), cv, tv] ∧ Z.Warmed39 U.vm ∧ U.heap = h0) (fun _ _ _ _ _ => True) (fun _ U o U' => ∃ v L, o = .returned v ∧ Qini Z x u cv tv h0 n0 v U'.heap L ∧ FrameEnd U o U' L ({ frames := 1, cells := 0, slots := 0, locals := 12 } : Room).cells ({ frames := 1, cells := 0, slots := 0, locals := 12 } : Room).slots) := by
  refine MetFree.of_bodySF (plainFor_of_name pn_com_example_cabin_audio_policy_cabinaudiopolicy_AudioAttributes) hisR ?_
  intro p e s m args below meth c s₁ Bd hml0 hP hK
  obtain ⟨rfl, hZ, hh⟩ := hP
  have hx := Bd.exec
  have hby := Bd.bytes
  have hml : c.maxLocals = 4 := hml0
  have hown : s.vm.findClass "com/example/cabin_audio_policy/cabinaudiopolicy/AudioAttributes" = some m.cls := findClass_of_methodNamed Bd.named
  have hnm := (name_of_methodNamed Bd.named Bd.method).1
  have X0 : Stand p l e ({ frames := 1, cells := 0, slots := 0, locals := 12 } : Room) s m #[(.ref x), (.ref u), cv, tv] below meth c s₁ [] 0 0 := Stand.of_body Bd
  have e0 : s₁.heap = h0 := by rw [← hh, Bd.state]; rfl
  have N0 := Fr.nil n0
  have K0 := Keep.refl h0 [x]
  obtain ⟨S0, hS0⟩ : ∃ z, z = s₁.setTop (entryFrame m #[(.ref x), (.ref u), cv, tv] 4) := ⟨_, rfl⟩
  rw [← hS0]
  have c0 : Steps p.tables e below S0 (s₁.setTop (mkF m 0 #[.val (.ref x), .val (.ref u), .val cv, .val tv] [])) := by
    rw [hS0]; exact castTop (ef_rmIni m x u cv tv hcv htv) (Steps.refl _)
  have c1 : Steps p.tables e below S0 (s₁.setTop (mkF m 1 #[.val (.ref x), .val (.ref u), .val cv, .val tv] [(.ref x)])) := c0.trans (by
    show Steps p.tables e below (s₁.setTop (mkF m 0 #[.val (.ref x), .val (.ref u), .val cv, .val tv] [])) _
    refine XS.aloadN X0.here hx rfl (hb hby d_prog_1_method_1_code_0) rfl rfl ?_
    exact Steps.refl _)
  obtain ⟨T2, X2, e2, st2⟩ := initO X0 hx hZ hown (hw _ (List.mem_of_getElem? (i := 111) rfl)) (hw _ (List.mem_of_getElem? (i := 91) rfl)) (hw _ (List.mem_of_getElem? (i := 92) rfl)) e0 (g := (mkF m 1 #[.val (.ref x), .val (.ref u), .val cv, .val tv] [(.ref x)])) rfl (by rw [hml]; rfl) rfl (hb hby d_prog_1_method_1_code_1) (by decide) (W := 0) (by show 2 * 0 + _ ≤ _; exact Nat.le_of_eq rfl) (by decide)
  have c3 : Steps p.tables e below S0 (T2.setTop (mkF m 4 #[.val (.ref x), .val (.ref u), .val cv, .val tv] [])) := c1.trans (st2 _ (Steps.refl _))
  have c4 : Steps p.tables e below S0 (T2.setTop (mkF m 6 #[.val (.ref x), .val (.ref u), .val cv, .val tv] [(.ref u), (.ref x)])) := c3.trans (by
    show Steps p.tables e below (T2.setTop (mkF m 4 #[.val (.ref x), .val (.ref u), .val cv, .val tv] [])) _
    refine XS.aloadN X2.here hx rfl (hb hby d_prog_1_method_1_code_4) rfl rfl ?_
    show Steps p.tables e below (T2.setTop (mkF m 5 #[.val (.ref x), .val (.ref u), .val cv, .val tv] [(.ref x)])) _
    refine XS.aloadN X2.here hx rfl (hb hby d_prog_1_method_1_code_5) rfl rfl ?_
    exact Steps.refl _)
  obtain ⟨T5, h5, X5, e5, W5, st5⟩ := putF X2 hx hZ hown (host := "") (Or.inl (hw _ (List.mem_of_getElem? (i := 112) rfl))) Via.refl e2 F0 Ex (Or.inr ⟨(hw _ (List.mem_of_getElem? (i := 113) rfl)), rfl, hnm⟩) (hw _ (List.mem_of_getElem? (i := 102) rfl)) (ty := (.object "com/example/cabin_audio_policy/cabinaudiopolicy/AudioUsage")) (by decide) rfl rfl (g := (mkF m 6 #[.val (.ref x), .val (.ref u), .val cv, .val tv] [(.ref u), (.ref x)])) rfl rfl (hb hby d_prog_1_method_1_code_6)
  have c6 : Steps p.tables e below S0 (T5.setTop (mkF m 9 #[.val (.ref x), .val (.ref u), .val cv, .val tv] [])) := c4.trans (st5 _ (Steps.refl _))
  have N5 := Fr.snoc X5 N0 g_x
  have Fw5 := F0.same W5
  have z5 : n0 ≤ h5.size := Nat.le_trans Z0 (Keep.of_wr W5).1
  have K5 := K0.wr W5 (Or.inl (by simp))
  have c7 : Steps p.tables e below S0 (T5.setTop (mkF m 11 #[.val (.ref x), .val (.ref u), .val cv, .val tv] [cv, (.ref x)])) := c6.trans (by
    show Steps p.tables e below (T5.setTop (mkF m 9 #[.val (.ref x), .val (.ref u), .val cv, .val tv] [])) _
    refine XS.aloadN X5.here hx rfl (hb hby d_prog_1_method_1_code_9) rfl rfl ?_
    show Steps p.tables e below (T5.setTop (mkF m 10 #[.val (.ref x), .val (.ref u), .val cv, .val tv] [(.ref x)])) _
    refine XS.aloadN X5.here hx rfl (hb hby d_prog_1_method_1_code_10) rfl hcv ?_
    exact Steps.refl _)
  obtain ⟨T8, h8, X8, e8, W8, st8⟩ := putF X5 hx hZ hown (host := "") (Or.inl (hw _ (List.mem_of_getElem? (i := 114) rfl))) Via.refl e5 (F1.other W5 (Or.inr (slot_ne (Or.inr (hw _ (List.mem_of_getElem? (i := 115) rfl))) (Or.inr (hw _ (List.mem_of_getElem? (i := 113) rfl))) (by decide) (t := (.object "com/example/cabin_audio_policy/cabinaudiopolicy/AudioContentType")) (t' := (.object "com/example/cabin_audio_policy/cabinaudiopolicy/AudioUsage")) (by decide) (by decide)))) (Ex.wr W5) (Or.inr ⟨(hw _ (List.mem_of_getElem? (i := 115) rfl)), rfl, hnm⟩) (hw _ (List.mem_of_getElem? (i := 102) rfl)) (ty := (.object "com/example/cabin_audio_policy/cabinaudiopolicy/AudioContentType")) (by decide) (by rcases ref_cases hcv with q | ⟨_, q⟩ <;> rw [q] <;> rfl) (by rcases ref_cases hcv with q | ⟨_, q⟩ <;> rw [q] <;> rfl) (g := (mkF m 11 #[.val (.ref x), .val (.ref u), .val cv, .val tv] [cv, (.ref x)])) rfl rfl (hb hby d_prog_1_method_1_code_11)
  have c9 : Steps p.tables e below S0 (T8.setTop (mkF m 14 #[.val (.ref x), .val (.ref u), .val cv, .val tv] [])) := c7.trans (st8 _ (Steps.refl _))
  have N8 := Fr.snoc X8 N5 g_x
  have Fw8 := (F1.other W5 (Or.inr (slot_ne (Or.inr (hw _ (List.mem_of_getElem? (i := 115) rfl))) (Or.inr (hw _ (List.mem_of_getElem? (i := 113) rfl))) (by decide) (t := (.object "com/example/cabin_audio_policy/cabinaudiopolicy/AudioContentType")) (t' := (.object "com/example/cabin_audio_policy/cabinaudiopolicy/AudioUsage")) (by decide) (by decide)))).same W8
  have z8 : n0 ≤ h8.size := Nat.le_trans z5 (Keep.of_wr W8).1
  have K8 := K5.wr W8 (Or.inl (by simp))
  have c10 : Steps p.tables e below S0 (T8.setTop (mkF m 16 #[.val (.ref x), .val (.ref u), .val cv, .val tv] [tv, (.ref x)])) := c9.trans (by
    show Steps p.tables e below (T8.setTop (mkF m 14 #[.val (.ref x), .val (.ref u), .val cv, .val tv] [])) _
    refine XS.aloadN X8.here hx rfl (hb hby d_prog_1_method_1_code_14) rfl rfl ?_
    show Steps p.tables e below (T8.setTop (mkF m 15 #[.val (.ref x), .val (.ref u), .val cv, .val tv] [(.ref x)])) _
    refine XS.aloadN X8.here hx rfl (hb hby d_prog_1_method_1_code_15) rfl htv ?_
    exact Steps.refl _)
  obtain ⟨T11, h11, X11, e11, W11, st11⟩ := putF X8 hx hZ hown (host := "") (Or.inl (hw _ (List.mem_of_getElem? (i := 116) rfl))) Via.refl e8 ((F2.other W5 (Or.inr (slot_ne (Or.inr (hw _ (List.mem_of_getElem? (i := 117) rfl))) (Or.inr (hw _ (List.mem_of_getElem? (i := 113) rfl))) (by decide) (t := (.object "java/lang/String")) (t' := (.object "com/example/cabin_audio_policy/cabinaudiopolicy/AudioUsage")) (by decide) (by decide)))).other W8 (Or.inr (slot_ne (Or.inr (hw _ (List.mem_of_getElem? (i := 117) rfl))) (Or.inr (hw _ (List.mem_of_getElem? (i := 115) rfl))) (by decide) (t := (.object "java/lang/String")) (t' := (.object "com/example/cabin_audio_policy/cabinaudiopolicy/AudioContentType")) (by decide) (by decide)))) ((Ex.wr W5).wr W8) (Or.inr ⟨(hw _ (List.mem_of_getElem? (i := 117) rfl)), rfl, hnm⟩) (hw _ (List.mem_of_getElem? (i := 102) rfl)) (ty := (.object "java/lang/String")) (by decide) (by rcases ref_cases htv with q | ⟨_, q⟩ <;> rw [q] <;> rfl) (by rcases ref_cases htv with q | ⟨_, q⟩ <;> rw [q] <;> rfl) (g := (mkF m 16 #[.val (.ref x), .val (.ref u), .val cv, .val tv] [tv, (.ref x)])) rfl rfl (hb hby d_prog_1_method_1_code_16)
  have c12 : Steps p.tables e below S0 (T11.setTop (mkF m 19 #[.val (.ref x), .val (.ref u), .val cv, .val tv] [])) := c10.trans (st11 _ (Steps.refl _))
  have N11 := Fr.snoc X11 N8 g_x
  have Fw11 := ((F2.other W5 (Or.inr (slot_ne (Or.inr (hw _ (List.mem_of_getElem? (i := 117) rfl))) (Or.inr (hw _ (List.mem_of_getElem? (i := 113) rfl))) (by decide) (t := (.object "java/lang/String")) (t' := (.object "com/example/cabin_audio_policy/cabinaudiopolicy/AudioUsage")) (by decide) (by decide)))).other W8 (Or.inr (slot_ne (Or.inr (hw _ (List.mem_of_getElem? (i := 117) rfl))) (Or.inr (hw _ (List.mem_of_getElem? (i := 115) rfl))) (by decide) (t := (.object "java/lang/String")) (t' := (.object "com/example/cabin_audio_policy/cabinaudiopolicy/AudioContentType")) (by decide) (by decide)))).same W11
  have z11 : n0 ≤ h11.size := Nat.le_trans z8 (Keep.of_wr W11).1
  have K11 := K8.wr W11 (Or.inl (by simp))
  obtain ⟨fs, hr, hrun, hended, hW, hsame⟩ := X11.leave (v := none) (fun h => rfl)
  refine ⟨_, _, c12.trans (X11.returnOut hx Bd.returns (hb hby d_prog_1_method_1_code_19) hr), hrun, hended, _, _, rfl, ?_, ⟨_, rfl⟩, hW, hsame.mono (by decide) (by decide)⟩
  show Qini Z x u cv tv h0 n0 _ T11.heap _
  rw [e11]
  exact ⟨rfl, N11, K11, (((Ex.wr W5).wr W8).wr W11), ((Fw5.other W8 (Or.inr (slot_ne (Or.inr (hw _ (List.mem_of_getElem? (i := 113) rfl))) (Or.inr (hw _ (List.mem_of_getElem? (i := 115) rfl))) (by decide) (t := (.object "com/example/cabin_audio_policy/cabinaudiopolicy/AudioUsage")) (t' := (.object "com/example/cabin_audio_policy/cabinaudiopolicy/AudioContentType")) (by decide) (by decide)))).other W11 (Or.inr (slot_ne (Or.inr (hw _ (List.mem_of_getElem? (i := 113) rfl))) (Or.inr (hw _ (List.mem_of_getElem? (i := 117) rfl))) (by decide) (t := (.object "com/example/cabin_audio_policy/cabinaudiopolicy/AudioUsage")) (t' := (.object "java/lang/String")) (by decide) (by decide)))), (Fw8.other W11 (Or.inr (slot_ne (Or.inr (hw _ (List.mem_of_getElem? (i := 115) rfl))) (Or.inr (hw _ (List.mem_of_getElem? (i := 117) rfl))) (by decide) (t := (.object "com/example/cabin_audio_policy/cabinaudiopolicy/AudioContentType")) (t' := (.object "java/lang/String")) (by decide) (by decide)))), Fw11⟩

def Qof (Z : State) (u : Addr) (h0 : Heap) (n0 : Nat) (v : Option Value) (h : Heap) (L : List Loc) : Prop := ∃ x : Addr, v = some (.ref x) ∧ Fr n0 L ∧ Keep h0 h [] ∧ h0.size ≤ x ∧ Exa Z h x "com/example/cabin_audio_policy/cabinaudiopolicy/AudioAttributes" ∧ Fld Z h x "com/example/cabin_audio_policy/cabinaudiopolicy/AudioAttributes" "usage" "Lcom/example/cabin_audio_policy/cabinaudiopolicy/AudioUsage;" (.ref u) ∧ Fld Z h x "com/example/cabin_audio_policy/cabinaudiopolicy/AudioAttributes" "contentType" "Lcom/example/cabin_audio_policy/cabinaudiopolicy/AudioContentType;" .null ∧ Fld Z h x "com/example/cabin_audio_policy/cabinaudiopolicy/AudioAttributes" "tags" "Ljava/lang/String;" .null

theorem d_prog_1_method_2_code_0 : decode prog_1_method_2_code 0 = .ok (.new 8, 3) := by decide +kernel
theorem d_prog_1_method_2_code_3 : decode prog_1_method_2_code 3 = .ok (.dup, 1) := by decide +kernel
theorem d_prog_1_method_2_code_4 : decode prog_1_method_2_code 4 = .ok (.aload_n 0, 1) := by decide +kernel
theorem pd_oLjavaslangsObjectecLjavaslangsObjecte : parseMethodDescriptor "(Ljava/lang/Object;)Ljava/lang/Object;" = some ⟨[(.object "java/lang/Object")], some (.object "java/lang/Object")⟩ := by decide +kernel
theorem d_prog_1_method_2_code_5 : decode prog_1_method_2_code 5 = .ok (.invokestatic 21, 3) := by decide +kernel
theorem d_prog_1_method_2_code_8 : decode prog_1_method_2_code 8 = .ok (.checkcast 27, 3) := by decide +kernel
theorem d_prog_1_method_2_code_11 : decode prog_1_method_2_code 11 = .ok (.aconst_null, 1) := by decide +kernel
theorem d_prog_1_method_2_code_12 : decode prog_1_method_2_code 12 = .ok (.aconst_null, 1) := by decide +kernel
theorem pd_oLcomsexamplescabin_audio_policyscabinaudiopolicysAudioUsageeLcomsexamplescabin_audio_policyscabinaudiopolicysAudioContentTypeeLjavaslangsStringecV : parseMethodDescriptor "(Lcom/example/cabin_audio_policy/cabinaudiopolicy/AudioUsage;Lcom/example/cabin_audio_policy/cabinaudiopolicy/AudioContentType;Ljava/lang/String;)V" = some ⟨[(.object "com/example/cabin_audio_policy/cabinaudiopolicy/AudioUsage"), (.object "com/example/cabin_audio_policy/cabinaudiopolicy/AudioContentType"), (.object "java/lang/String")], none⟩ := by decide +kernel
theorem d_prog_1_method_2_code_13 : decode prog_1_method_2_code 13 = .ok (.invokespecial 29, 3) := by decide +kernel
theorem d_prog_1_method_2_code_16 : decode prog_1_method_2_code 16 = .ok (.areturn, 1) := by decide +kernel
theorem ef_rmOf (m : MethodId) (x0 : Addr) : entryFrame m #[(.ref x0)] 1 = mkF m 0 #[.val (.ref x0)] [] := by first | (simp [entryFrame, mkF, argsToLocals, Value.category]; done) | rfl
set_option maxRecDepth 65536 in
set_option maxHeartbeats 40000000 in
theorem rmOf (l : Launch) (Z : State) (a0 : Array Value) (hw : ∀ d ∈ tables_1, d.before a0 Z = true) (ws : List Jvm.Cond) (u : Addr) (h0 : Heap) (n0 : Nat) (Z0 : n0 ≤ h0.size) (Eu : Exa Z h0 u "com/example/cabin_audio_policy/cabinaudiopolicy/AudioUsage") :
    MetFree l (⟨"com/example/cabin_audio_policy/cabinaudiopolicy/AudioAttributes", "of", "(Lcom/example/cabin_audio_policy/cabinaudiopolicy/AudioUsage;)Lcom/example/cabin_audio_policy/cabinaudiopolicy/AudioAttributes;"⟩ : MethodName) (head1 (Jvm.Cond.code (⟨"com/example/cabin_audio_policy/cabinaudiopolicy/AudioAttributes", "of", "(Lcom/example/cabin_audio_policy/cabinaudiopolicy/AudioUsage;)Lcom/example/cabin_audio_policy/cabinaudiopolicy/AudioAttributes;"⟩ : MethodName) prog_1_method_2_code 1 (some (.object "com/example/cabin_audio_policy/cabinaudiopolicy/AudioAttributes")) :: ws) ({ frames := 2, cells := 1, slots := 3, locals := 28 } : Room)) (fun aa U => aa = #[(.ref u)] ∧ Z.Warmed39 U.vm ∧ U.heap = h0) (fun _ _ _ _ _ => True) (fun _ U o U' => ∃ v L, o = .returned v ∧ Qof Z u h0 n0 v U'.heap L ∧ FrameEnd U o U' L ({ frames := 2, cells := 1, slots := 3, locals := 28 } : Room).cells ({ frames := 2, cells := 1, slots := 3, locals := 28 } : Room).slots) := by
  refine MetFree.of_bodySF (plainFor_of_name pn_com_example_cabin_audio_policy_cabinaudiopolicy_AudioAttributes) hisR ?_
  intro p e s m args below meth c s₁ Bd hml0 hP hK
  obtain ⟨rfl, hZ, hh⟩ := hP
  have hx := Bd.exec
  have hby := Bd.bytes
  have hml : c.maxLocals = 1 := hml0
  have hown : s.vm.findClass "com/example/cabin_audio_policy/cabinaudiopolicy/AudioAttributes" = some m.cls := findClass_of_methodNamed Bd.named
  have hnm := (name_of_methodNamed Bd.named Bd.method).1
  have X0 : Stand p l e ({ frames := 2, cells := 1, slots := 3, locals := 28 } : Room) s m #[(.ref u)] below meth c s₁ [] 0 0 := Stand.of_body Bd
  have e0 : s₁.heap = h0 := by rw [← hh, Bd.state]; rfl
  have N0 := Fr.nil n0
  have K0 := Keep.refl h0 []
  obtain ⟨S0, hS0⟩ : ∃ z, z = s₁.setTop (entryFrame m #[(.ref u)] 1) := ⟨_, rfl⟩
  rw [← hS0]
  have c0 : Steps p.tables e below S0 (s₁.setTop (mkF m 0 #[.val (.ref u)] [])) := by
    rw [hS0]; exact castTop (ef_rmOf m u) (Steps.refl _)
  obtain ⟨T1, h1, X1, e1, E1, A1, D1, -, st1⟩ := newO X0 hx hZ hown (hw _ (List.mem_of_getElem? (i := 101) rfl)) (hw _ (List.mem_of_getElem? (i := 102) rfl)) (hw _ (List.mem_of_getElem? (i := 99) rfl)) e0 (g := (mkF m 0 #[.val (.ref u)] [])) rfl (hb hby d_prog_1_method_2_code_0) (by decide) (by decide)
  obtain ⟨b1, g1⟩ : ∃ z, z = h0.size := ⟨_, rfl⟩
  rw [← g1] at A1 D1 st1
  have c2 : Steps p.tables e below S0 (T1.setTop (mkF m 3 #[.val (.ref u)] [(.ref b1)])) := c0.trans (st1 _ (Steps.refl _))
  have z1 : n0 ≤ h1.size := Nat.le_trans Z0 E1.1
  have K1 := K0.ext E1
  have lt_b1 : b1 < h1.size := A1.lt
  have F1_usage : Fld Z h1 b1 "com/example/cabin_audio_policy/cabinaudiopolicy/AudioAttributes" "usage" "Lcom/example/cabin_audio_policy/cabinaudiopolicy/AudioUsage;" .null := D1 (Or.inr (hw _ (List.mem_of_getElem? (i := 113) rfl))) (ty := (.object "com/example/cabin_audio_policy/cabinaudiopolicy/AudioUsage")) (by decide)
  have F1_contentType : Fld Z h1 b1 "com/example/cabin_audio_policy/cabinaudiopolicy/AudioAttributes" "contentType" "Lcom/example/cabin_audio_policy/cabinaudiopolicy/AudioContentType;" .null := D1 (Or.inr (hw _ (List.mem_of_getElem? (i := 115) rfl))) (ty := (.object "com/example/cabin_audio_policy/cabinaudiopolicy/AudioContentType")) (by decide)
  have F1_tags : Fld Z h1 b1 "com/example/cabin_audio_policy/cabinaudiopolicy/AudioAttributes" "tags" "Ljava/lang/String;" .null := D1 (Or.inr (hw _ (List.mem_of_getElem? (i := 117) rfl))) (ty := (.object "java/lang/String")) (by decide)
  have c3 : Steps p.tables e below S0 (T1.setTop (mkF m 5 #[.val (.ref u)] [(.ref u), (.ref b1), (.ref b1)])) := c2.trans (by
    show Steps p.tables e below (T1.setTop (mkF m 3 #[.val (.ref u)] [(.ref b1)])) _
    refine XS.dup X1.here hx rfl (hb hby d_prog_1_method_2_code_3) rfl rfl ?_
    show Steps p.tables e below (T1.setTop (mkF m 4 #[.val (.ref u)] [(.ref b1), (.ref b1)])) _
    refine XS.aloadN X1.here hx rfl (hb hby d_prog_1_method_2_code_4) rfl rfl ?_
    exact Steps.refl _)
  obtain ⟨_, _, ⟨T4, L4, kk4, nn4⟩, -, X4, ⟨Lc4, hQ4, l4, y4, z4⟩, st4⟩ := Jvm.LawKit.callS X1 hx (y := (⟨"java/util/Objects", "requireNonNull", "(Ljava/lang/Object;)Ljava/lang/Object;"⟩ : MethodName)) hown (mvT hZ (hw _ (List.mem_of_getElem? (i := 103) rfl))) (mvT hZ (hw _ (List.mem_of_getElem? (i := 104) rfl))) (mvT hZ (hw _ (List.mem_of_getElem? (i := 105) rfl))) (mvT hZ (hw _ (List.mem_of_getElem? (i := 106) rfl))) (by decide) (backOf (W := 2) (rmRnn1 l Z a0 hw [] u h1 n0 z1 ) hZ (hw _ (List.mem_of_getElem? (i := 106) rfl)) (hw _ (List.mem_of_getElem? (i := 105) rfl)) (by decide) (by decide)) (g := (mkF m 5 #[.val (.ref u)] [(.ref u), (.ref b1), (.ref b1)])) rfl (by rw [hml]; rfl) (argsL := [(.ref u)]) (rest := [(.ref b1), (.ref b1)]) (lenOf pd_oLjavaslangsObjectecLjavaslangsObjecte rfl) rfl (by show 2 * 0 + _ ≤ _; exact Nat.le_of_eq rfl) (hb hby d_prog_1_method_2_code_5) (fun _ _ => ⟨rfl, e1, (by decide : 1 + 0 ≤ _), (by decide : 3 + 0 ≤ _)⟩)
  dsimp only [Pt.U, Pt.locs, Pt.cells, Pt.slots] at X4 l4 y4 z4 st4 hQ4
  subst l4 y4 z4
  obtain ⟨rfl, Nq4, eq4⟩ := hQ4
  have c5 : Steps p.tables e below S0 (T4.setTop (mkF m 8 #[.val (.ref u)] [(.ref u), (.ref b1), (.ref b1)])) := c3.trans (st4 _ (Steps.refl _))
  have N4 := Fr.app N0 Nq4
  obtain ⟨T6, X6, e6, st6⟩ := castY X4 hx hZ hown (hw _ (List.mem_of_getElem? (i := 107) rfl)) eq4 (Ins.self (Eu.ext E1)) (g := (mkF m 8 #[.val (.ref u)] [(.ref u), (.ref b1), (.ref b1)])) rfl rfl (hb hby d_prog_1_method_2_code_8)
  have c7 : Steps p.tables e below S0 (T6.setTop (mkF m 11 #[.val (.ref u)] [(.ref u), (.ref b1), (.ref b1)])) := c5.trans (st6 _ (Steps.refl _))
  have c8 : Steps p.tables e below S0 (T6.setTop (mkF m 13 #[.val (.ref u)] [.null, .null, (.ref u), (.ref b1), (.ref b1)])) := c7.trans (by
    show Steps p.tables e below (T6.setTop (mkF m 11 #[.val (.ref u)] [(.ref u), (.ref b1), (.ref b1)])) _
    refine XS.aconstNull X6.here hx rfl (hb hby d_prog_1_method_2_code_11) ?_
    show Steps p.tables e below (T6.setTop (mkF m 12 #[.val (.ref u)] [.null, (.ref u), (.ref b1), (.ref b1)])) _
    refine XS.aconstNull X6.here hx rfl (hb hby d_prog_1_method_2_code_12) ?_
    exact Steps.refl _)
  obtain ⟨_, _, ⟨T9, L9, kk9, nn9⟩, -, X9, ⟨Lc9, hQ9, l9, y9, z9⟩, st9⟩ := X6.specialBack hx (y := (⟨"com/example/cabin_audio_policy/cabinaudiopolicy/AudioAttributes", "<init>", "(Lcom/example/cabin_audio_policy/cabinaudiopolicy/AudioUsage;Lcom/example/cabin_audio_policy/cabinaudiopolicy/AudioContentType;Ljava/lang/String;)V"⟩ : MethodName)) rfl hown (mvT hZ (hw _ (List.mem_of_getElem? (i := 108) rfl))) (mvT hZ (hw _ (List.mem_of_getElem? (i := 109) rfl))) (mvT hZ (hw _ (List.mem_of_getElem? (i := 110) rfl))) (by decide) (backOf (W := 1) (rmIni l Z a0 hw [] b1 u .null .null h1 n0 z1 rfl rfl (Nat.le_trans Z0 (Nat.le_trans K0.1 (Nat.le_of_eq g1.symm))) A1 F1_usage F1_contentType F1_tags) hZ (hw _ (List.mem_of_getElem? (i := 110) rfl)) (hw _ (List.mem_of_getElem? (i := 99) rfl)) (by decide) (by decide)) (g := (mkF m 13 #[.val (.ref u)] [.null, .null, (.ref u), (.ref b1), (.ref b1)])) rfl (by rw [hml]; rfl) (Steps.refl _) (a := b1) (argsL := [(.ref u), .null, .null]) (rest := [(.ref b1)]) (lenOf pd_oLcomsexamplescabin_audio_policyscabinaudiopolicysAudioUsageeLcomsexamplescabin_audio_policyscabinaudiopolicysAudioContentTypeeLjavaslangsStringecV rfl) rfl (by show 2 * 0 + _ ≤ _; exact Nat.le_of_eq rfl) (hb hby d_prog_1_method_2_code_13) (fun _ _ => ⟨rfl, e6, (by decide : 1 + 0 ≤ _), (by decide : 3 + 0 ≤ _)⟩)
  dsimp only [Pt.U, Pt.locs, Pt.cells, Pt.slots] at X9 l9 y9 z9 st9 hQ9
  subst l9 y9 z9
  obtain ⟨rfl, Nq9, Kq9, Ei9, Fu9, Ft9, Fg9⟩ := hQ9
  have c10 : Steps p.tables e below S0 (T9.setTop (mkF m 16 #[.val (.ref u)] [(.ref b1)])) := c8.trans (st9)
  have N9 := Fr.app N4 Nq9
  have z9 : n0 ≤ T9.heap.size := Nat.le_trans z1 Kq9.1
  have K9 := K1.trans Kq9 (allS (Or.inr (Nat.le_trans K0.1 (Nat.le_of_eq g1.symm))) all0)
  obtain ⟨fs, hr, hrun, hended, hW, hsame⟩ := X9.leave (v := some (.ref b1)) (fun h => by rw [Bd.returns] at h; cases h)
  refine ⟨_, _, c10.trans (retOut X9 hx Bd.returns rfl (Or.inr (Or.inr (Or.inr (Or.inr ⟨rfl, rfl, rfl⟩)))) (hb hby d_prog_1_method_2_code_16) hr), hrun, hended, _, _, rfl, ?_, ⟨_, rfl⟩, hW, hsame.mono (by decide) (by decide)⟩
  show Qof Z u h0 n0 _ T9.heap _
  exact ⟨_, rfl, N9, K9, (Nat.le_trans K0.1 (Nat.le_of_eq g1.symm)), Ei9, Fu9, Ft9, Fg9⟩

def Qoe (Z : State) (tv : Value) (h0 : Heap) (n0 : Nat) (v : Option Value) (h : Heap) (L : List Loc) : Prop := ∃ r : Int32, v = some (.int r) ∧ TF r (tv = .null) ∧ Fr n0 L ∧ h = h0

theorem d_jdk_31_method_2_code_0 : decode jdk_31_method_2_code 0 = .ok (.aload_n 0, 1) := by decide +kernel
theorem d_jdk_31_method_2_code_1 : decode jdk_31_method_2_code 1 = .ok (.aload_n 1, 1) := by decide +kernel
theorem d_jdk_31_method_2_code_2 : decode jdk_31_method_2_code 2 = .ok (.if_acmp .eq 15, 3) := by decide +kernel
theorem d_jdk_31_method_2_code_17 : decode jdk_31_method_2_code 17 = .ok (.iconst 1, 1) := by decide +kernel
theorem d_jdk_31_method_2_code_18 : decode jdk_31_method_2_code 18 = .ok (.goto 4, 3) := by decide +kernel
theorem d_jdk_31_method_2_code_22 : decode jdk_31_method_2_code 22 = .ok (.ireturn, 1) := by decide +kernel
theorem d_jdk_31_method_2_code_5 : decode jdk_31_method_2_code 5 = .ok (.aload_n 0, 1) := by decide +kernel
theorem d_jdk_31_method_2_code_6 : decode jdk_31_method_2_code 6 = .ok (.ifnull 15, 3) := by decide +kernel
theorem d_jdk_31_method_2_code_21 : decode jdk_31_method_2_code 21 = .ok (.iconst 0, 1) := by decide +kernel
theorem ef_rmOe (m : MethodId) (x1 : Value) (hx1 : x1.isRef = true): entryFrame m #[.null, x1] 2 = mkF m 0 #[.val .null, .val x1] [] := by rcases ref_cases hx1 with rfl | ⟨_, rfl⟩ <;> rfl
set_option maxRecDepth 65536 in
set_option maxHeartbeats 40000000 in
theorem rmOe (l : Launch) (Z : State) (a0 : Array Value) (hw : ∀ d ∈ tables_1, d.before a0 Z = true) (ws : List Jvm.Cond) (tv : Value) (h0 : Heap) (n0 : Nat) (Z0 : n0 ≤ h0.size) (htv : tv.isRef = true) :
    MetFree l (⟨"java/util/Objects", "equals", "(Ljava/lang/Object;Ljava/lang/Object;)Z"⟩ : MethodName) (head1 (Jvm.Cond.code (⟨"java/util/Objects", "equals", "(Ljava/lang/Object;Ljava/lang/Object;)Z"⟩ : MethodName) jdk_31_method_2_code 2 (some .boolean) :: ws) ({ frames := 0, cells := 0, slots := 0, locals := 0 } : Room)) (fun aa U => aa = #[.null, tv] ∧ Z.Warmed39 U.vm ∧ U.heap = h0) (fun _ _ _ _ _ => True) (fun _ U o U' => ∃ v L, o = .returned v ∧ Qoe Z tv h0 n0 v U'.heap L ∧ FrameEnd U o U' L ({ frames := 0, cells := 0, slots := 0, locals := 0 } : Room).cells ({ frames := 0, cells := 0, slots := 0, locals := 0 } : Room).slots) := by
  refine MetFree.of_bodySF (plainFor_of_name pn_java_util_Objects) hisR ?_
  intro p e s m args below meth c s₁ Bd hml0 hP hK
  obtain ⟨rfl, hZ, hh⟩ := hP
  have hx := Bd.exec
  have hby := Bd.bytes
  have hml : c.maxLocals = 2 := hml0
  have hown : s.vm.findClass "java/util/Objects" = some m.cls := findClass_of_methodNamed Bd.named
  have hnm := (name_of_methodNamed Bd.named Bd.method).1
  have X0 : Stand p l e ({ frames := 0, cells := 0, slots := 0, locals := 0 } : Room) s m #[.null, tv] below meth c s₁ [] 0 0 := Stand.of_body Bd
  have e0 : s₁.heap = h0 := by rw [← hh, Bd.state]; rfl
  have N0 := Fr.nil n0
  have K0 := Keep.refl h0 []
  obtain ⟨S0, hS0⟩ : ∃ z, z = s₁.setTop (entryFrame m #[.null, tv] 2) := ⟨_, rfl⟩
  rw [← hS0]
  have c0 : Steps p.tables e below S0 (s₁.setTop (mkF m 0 #[.val .null, .val tv] [])) := by
    rw [hS0]; exact castTop (ef_rmOe m tv htv) (Steps.refl _)
  have c1 : Steps p.tables e below S0 (s₁.setTop (mkF m 2 #[.val .null, .val tv] [tv, .null])) := c0.trans (by
    show Steps p.tables e below (s₁.setTop (mkF m 0 #[.val .null, .val tv] [])) _
    refine XS.aloadN X0.here hx rfl (hb hby d_jdk_31_method_2_code_0) rfl rfl ?_
    show Steps p.tables e below (s₁.setTop (mkF m 1 #[.val .null, .val tv] [.null])) _
    refine XS.aloadN X0.here hx rfl (hb hby d_jdk_31_method_2_code_1) rfl htv ?_
    exact Steps.refl _)
  by_cases hq2 : (.null : Value) = tv
  · have c3 : Steps p.tables e below S0 (s₁.setTop (mkF m 22 #[.val .null, .val tv] [(.int (1 : Int32))])) := c1.trans (by
      show Steps p.tables e below (s₁.setTop (mkF m 2 #[.val .null, .val tv] [tv, .null])) _
      refine Jvm.RoadKit.acmp (g := (mkF m 2 #[.val .null, .val tv] [tv, .null])) X0 hx rfl rfl htv (pc0 := 2) (pc' := 17) (same := true) rfl (hb hby d_jdk_31_method_2_code_2) rfl (decide_eq_true hq2) (by decide) (by decide) ?_
      show Steps p.tables e below (s₁.setTop (mkF m 17 #[.val .null, .val tv] [])) _
      refine XS.iconst X0.here hx rfl (hb hby d_jdk_31_method_2_code_17) ?_
      show Steps p.tables e below (s₁.setTop (mkF m 18 #[.val .null, .val tv] [(.int (1 : Int32))])) _
      refine XS.goto X0.here hx rfl (pc0 := 18) (pc' := 22) rfl (hb hby d_jdk_31_method_2_code_18) (by decide) (by decide) ?_
      exact Steps.refl _)
    obtain ⟨fs, hr, hrun, hended, hW, hsame⟩ := X0.leave (v := some (.int (1 : Int32))) (fun h => by rw [Bd.returns] at h; cases h)
    refine ⟨_, _, c3.trans (retOut X0 hx Bd.returns rfl (Or.inl ⟨rfl, by simp, _, rfl⟩) (hb hby d_jdk_31_method_2_code_22) hr), hrun, hended, _, _, rfl, ?_, ⟨_, rfl⟩, hW, hsame.mono (by decide) (by decide)⟩
    show Qoe Z tv h0 n0 _ s₁.heap _
    rw [e0]
    exact ⟨_, rfl, Or.inl ⟨rfl, hq2.symm⟩, N0, rfl⟩
  · have c4 : Steps p.tables e below S0 (s₁.setTop (mkF m 22 #[.val .null, .val tv] [(.int (0 : Int32))])) := c1.trans (by
      show Steps p.tables e below (s₁.setTop (mkF m 2 #[.val .null, .val tv] [tv, .null])) _
      refine Jvm.RoadKit.acmp (g := (mkF m 2 #[.val .null, .val tv] [tv, .null])) X0 hx rfl rfl htv (pc0 := 2) (pc' := 5) (same := false) rfl (hb hby d_jdk_31_method_2_code_2) rfl (decide_eq_false hq2) (by decide) (by decide) ?_
      show Steps p.tables e below (s₁.setTop (mkF m 5 #[.val .null, .val tv] [])) _
      refine XS.aloadN X0.here hx rfl (hb hby d_jdk_31_method_2_code_5) rfl rfl ?_
      show Steps p.tables e below (s₁.setTop (mkF m 6 #[.val .null, .val tv] [.null])) _
      refine XS.ifnullYes X0.here hx rfl (pc0 := 6) (pc' := 21) rfl (hb hby d_jdk_31_method_2_code_6) rfl (by decide) (by decide) ?_
      show Steps p.tables e below (s₁.setTop (mkF m 21 #[.val .null, .val tv] [])) _
      refine XS.iconst X0.here hx rfl (hb hby d_jdk_31_method_2_code_21) ?_
      exact Steps.refl _)
    obtain ⟨fs, hr, hrun, hended, hW, hsame⟩ := X0.leave (v := some (.int (0 : Int32))) (fun h => by rw [Bd.returns] at h; cases h)
    refine ⟨_, _, c4.trans (retOut X0 hx Bd.returns rfl (Or.inl ⟨rfl, by simp, _, rfl⟩) (hb hby d_jdk_31_method_2_code_22) hr), hrun, hended, _, _, rfl, ?_, ⟨_, rfl⟩, hW, hsame.mono (by decide) (by decide)⟩
    show Qoe Z tv h0 n0 _ s₁.heap _
    rw [e0]
    exact ⟨_, rfl, Or.inr ⟨rfl, fun q => hq2 q.symm⟩, N0, rfl⟩

def Qeq (Z : State) (u u2 : Addr) (cv tv : Value) (h0 : Heap) (n0 : Nat) (v : Option Value) (h : Heap) (L : List Loc) : Prop := ∃ r : Int32, v = some (.int r) ∧ TF r (u = u2 ∧ cv = .null ∧ tv = .null) ∧ Fr n0 L ∧ h = h0

theorem d_prog_1_method_6_code_0 : decode prog_1_method_6_code 0 = .ok (.aload_n 1, 1) := by decide +kernel
theorem d_prog_1_method_6_code_1 : decode prog_1_method_6_code 1 = .ok (.instanceof 8, 3) := by decide +kernel
theorem d_prog_1_method_6_code_4 : decode prog_1_method_6_code 4 = .ok (.ifCond .ne 5, 3) := by decide +kernel
theorem d_prog_1_method_6_code_9 : decode prog_1_method_6_code 9 = .ok (.aload_n 1, 1) := by decide +kernel
theorem d_prog_1_method_6_code_10 : decode prog_1_method_6_code 10 = .ok (.checkcast 8, 3) := by decide +kernel
theorem d_prog_1_method_6_code_13 : decode prog_1_method_6_code 13 = .ok (.astore_n 2, 1) := by decide +kernel
theorem d_prog_1_method_6_code_14 : decode prog_1_method_6_code 14 = .ok (.aload_n 0, 1) := by decide +kernel
theorem d_prog_1_method_6_code_15 : decode prog_1_method_6_code 15 = .ok (.getfield 7, 3) := by decide +kernel
theorem d_prog_1_method_6_code_18 : decode prog_1_method_6_code 18 = .ok (.aload_n 2, 1) := by decide +kernel
theorem d_prog_1_method_6_code_19 : decode prog_1_method_6_code 19 = .ok (.getfield 7, 3) := by decide +kernel
theorem d_prog_1_method_6_code_22 : decode prog_1_method_6_code 22 = .ok (.if_acmp .ne 32, 3) := by decide +kernel
theorem d_prog_1_method_6_code_25 : decode prog_1_method_6_code 25 = .ok (.aload_n 0, 1) := by decide +kernel
theorem d_prog_1_method_6_code_26 : decode prog_1_method_6_code 26 = .ok (.getfield 13, 3) := by decide +kernel
theorem d_prog_1_method_6_code_29 : decode prog_1_method_6_code 29 = .ok (.aload_n 2, 1) := by decide +kernel
theorem d_prog_1_method_6_code_30 : decode prog_1_method_6_code 30 = .ok (.getfield 13, 3) := by decide +kernel
theorem d_prog_1_method_6_code_33 : decode prog_1_method_6_code 33 = .ok (.if_acmp .ne 21, 3) := by decide +kernel
theorem d_prog_1_method_6_code_36 : decode prog_1_method_6_code 36 = .ok (.aload_n 0, 1) := by decide +kernel
theorem d_prog_1_method_6_code_37 : decode prog_1_method_6_code 37 = .ok (.getfield 17, 3) := by decide +kernel
theorem d_prog_1_method_6_code_40 : decode prog_1_method_6_code 40 = .ok (.aload_n 2, 1) := by decide +kernel
theorem d_prog_1_method_6_code_41 : decode prog_1_method_6_code 41 = .ok (.getfield 17, 3) := by decide +kernel
theorem pd_oLjavaslangsObjecteLjavaslangsObjectecZ : parseMethodDescriptor "(Ljava/lang/Object;Ljava/lang/Object;)Z" = some ⟨[(.object "java/lang/Object"), (.object "java/lang/Object")], some .boolean⟩ := by decide +kernel
theorem d_prog_1_method_6_code_44 : decode prog_1_method_6_code 44 = .ok (.invokestatic 38, 3) := by decide +kernel
theorem d_prog_1_method_6_code_47 : decode prog_1_method_6_code 47 = .ok (.ifCond .eq 7, 3) := by decide +kernel
theorem d_prog_1_method_6_code_54 : decode prog_1_method_6_code 54 = .ok (.iconst 0, 1) := by decide +kernel
theorem d_prog_1_method_6_code_55 : decode prog_1_method_6_code 55 = .ok (.ireturn, 1) := by decide +kernel
theorem d_prog_1_method_6_code_50 : decode prog_1_method_6_code 50 = .ok (.iconst 1, 1) := by decide +kernel
theorem d_prog_1_method_6_code_51 : decode prog_1_method_6_code 51 = .ok (.goto 4, 3) := by decide +kernel
theorem ef_rmEq (m : MethodId) (x0 : Addr) (x1 : Addr) : entryFrame m #[(.ref x0), (.ref x1)] 3 = mkF m 0 #[.val (.ref x0), .val (.ref x1), .unset] [] := by first | (simp [entryFrame, mkF, argsToLocals, Value.category]; done) | rfl
set_option maxRecDepth 65536 in
set_option maxHeartbeats 40000000 in
theorem rmEq (l : Launch) (Z : State) (a0 : Array Value) (hw : ∀ d ∈ tables_1, d.before a0 Z = true) (ws : List Jvm.Cond) (x y u u2 : Addr) (cv tv : Value) (h0 : Heap) (n0 : Nat) (Z0 : n0 ≤ h0.size) (hcv : cv.isRef = true) (htv : tv.isRef = true) (Ey : Exa Z h0 y "com/example/cabin_audio_policy/cabinaudiopolicy/AudioAttributes") (F0 : Fld Z h0 x "com/example/cabin_audio_policy/cabinaudiopolicy/AudioAttributes" "usage" "Lcom/example/cabin_audio_policy/cabinaudiopolicy/AudioUsage;" (.ref u)) (F1 : Fld Z h0 x "com/example/cabin_audio_policy/cabinaudiopolicy/AudioAttributes" "contentType" "Lcom/example/cabin_audio_policy/cabinaudiopolicy/AudioContentType;" .null) (F2 : Fld Z h0 x "com/example/cabin_audio_policy/cabinaudiopolicy/AudioAttributes" "tags" "Ljava/lang/String;" .null) (G0 : Fld Z h0 y "com/example/cabin_audio_policy/cabinaudiopolicy/AudioAttributes" "usage" "Lcom/example/cabin_audio_policy/cabinaudiopolicy/AudioUsage;" (.ref u2)) (G1 : Fld Z h0 y "com/example/cabin_audio_policy/cabinaudiopolicy/AudioAttributes" "contentType" "Lcom/example/cabin_audio_policy/cabinaudiopolicy/AudioContentType;" cv) (G2 : Fld Z h0 y "com/example/cabin_audio_policy/cabinaudiopolicy/AudioAttributes" "tags" "Ljava/lang/String;" tv) :
    MetFree l (⟨"com/example/cabin_audio_policy/cabinaudiopolicy/AudioAttributes", "equals", "(Ljava/lang/Object;)Z"⟩ : MethodName) (head1 (Jvm.Cond.code (⟨"com/example/cabin_audio_policy/cabinaudiopolicy/AudioAttributes", "equals", "(Ljava/lang/Object;)Z"⟩ : MethodName) prog_1_method_6_code 3 (some .boolean) :: ws) ({ frames := 1, cells := 0, slots := 0, locals := 13 } : Room)) (fun aa U => aa = #[(.ref x), (.ref y)] ∧ Z.Warmed39 U.vm ∧ U.heap = h0) (fun _ _ _ _ _ => True) (fun _ U o U' => ∃ v L, o = .returned v ∧ Qeq Z u u2 cv tv h0 n0 v U'.heap L ∧ FrameEnd U o U' L ({ frames := 1, cells := 0, slots := 0, locals := 13 } : Room).cells ({ frames := 1, cells := 0, slots := 0, locals := 13 } : Room).slots) := by
  refine MetFree.of_bodySF (plainFor_of_name pn_com_example_cabin_audio_policy_cabinaudiopolicy_AudioAttributes) hisR ?_
  intro p e s m args below meth c s₁ Bd hml0 hP hK
  obtain ⟨rfl, hZ, hh⟩ := hP
  have hx := Bd.exec
  have hby := Bd.bytes
  have hml : c.maxLocals = 3 := hml0
  have hown : s.vm.findClass "com/example/cabin_audio_policy/cabinaudiopolicy/AudioAttributes" = some m.cls := findClass_of_methodNamed Bd.named
  have hnm := (name_of_methodNamed Bd.named Bd.method).1
  have X0 : Stand p l e ({ frames := 1, cells := 0, slots := 0, locals := 13 } : Room) s m #[(.ref x), (.ref y)] below meth c s₁ [] 0 0 := Stand.of_body Bd
  have e0 : s₁.heap = h0 := by rw [← hh, Bd.state]; rfl
  have N0 := Fr.nil n0
  have K0 := Keep.refl h0 []
  obtain ⟨S0, hS0⟩ : ∃ z, z = s₁.setTop (entryFrame m #[(.ref x), (.ref y)] 3) := ⟨_, rfl⟩
  rw [← hS0]
  have c0 : Steps p.tables e below S0 (s₁.setTop (mkF m 0 #[.val (.ref x), .val (.ref y), .unset] [])) := by
    rw [hS0]; exact castTop (ef_rmEq m x y) (Steps.refl _)
  have c1 : Steps p.tables e below S0 (s₁.setTop (mkF m 1 #[.val (.ref x), .val (.ref y), .unset] [(.ref y)])) := c0.trans (by
    show Steps p.tables e below (s₁.setTop (mkF m 0 #[.val (.ref x), .val (.ref y), .unset] [])) _
    refine XS.aloadN X0.here hx rfl (hb hby d_prog_1_method_6_code_0) rfl rfl ?_
    exact Steps.refl _)
  obtain ⟨T2, X2, e2, st2⟩ := instY X0 hx hZ hown (hw _ (List.mem_of_getElem? (i := 101) rfl)) e0 (Ins.self Ey) (g := (mkF m 1 #[.val (.ref x), .val (.ref y), .unset] [(.ref y)])) rfl rfl (hb hby d_prog_1_method_6_code_1)
  have c3 : Steps p.tables e below S0 (T2.setTop (mkF m 4 #[.val (.ref x), .val (.ref y), .unset] [(.int (1 : Int32))])) := c1.trans (st2 _ (Steps.refl _))
  have c4 : Steps p.tables e below S0 (T2.setTop (mkF m 10 #[.val (.ref x), .val (.ref y), .unset] [(.ref y)])) := c3.trans (by
    show Steps p.tables e below (T2.setTop (mkF m 4 #[.val (.ref x), .val (.ref y), .unset] [(.int (1 : Int32))])) _
    refine XS.ifYes X2.here hx rfl (pc0 := 4) (pc' := 9) rfl (hb hby d_prog_1_method_6_code_4) rfl ((if0 _ _).trans (feq (by decide : ¬ ((1 : Int32) = (0 : Int32)))).2) (by decide) (by decide) ?_
    show Steps p.tables e below (T2.setTop (mkF m 9 #[.val (.ref x), .val (.ref y), .unset] [])) _
    refine XS.aloadN X2.here hx rfl (hb hby d_prog_1_method_6_code_9) rfl rfl ?_
    exact Steps.refl _)
  obtain ⟨T5, X5, e5, st5⟩ := castY X2 hx hZ hown (hw _ (List.mem_of_getElem? (i := 101) rfl)) e2 (Ins.self Ey) (g := (mkF m 10 #[.val (.ref x), .val (.ref y), .unset] [(.ref y)])) rfl rfl (hb hby d_prog_1_method_6_code_10)
  have c6 : Steps p.tables e below S0 (T5.setTop (mkF m 13 #[.val (.ref x), .val (.ref y), .unset] [(.ref y)])) := c4.trans (st5 _ (Steps.refl _))
  have c7 : Steps p.tables e below S0 (T5.setTop (mkF m 15 #[.val (.ref x), .val (.ref y), .val (.ref y)] [(.ref x)])) := c6.trans (by
    show Steps p.tables e below (T5.setTop (mkF m 13 #[.val (.ref x), .val (.ref y), .unset] [(.ref y)])) _
    refine XS.astoreN X5.here hx rfl (hb hby d_prog_1_method_6_code_13) rfl rfl (l' := #[.val (.ref x), .val (.ref y), .val (.ref y)]) rfl ?_
    show Steps p.tables e below (T5.setTop (mkF m 14 #[.val (.ref x), .val (.ref y), .val (.ref y)] [])) _
    refine XS.aloadN X5.here hx rfl (hb hby d_prog_1_method_6_code_14) rfl rfl ?_
    exact Steps.refl _)
  obtain ⟨T8, X8, e8, st8⟩ := getF X5 hx hZ hown (host := "") (Or.inl (hw _ (List.mem_of_getElem? (i := 112) rfl))) Via.refl e5 F0 (g := (mkF m 15 #[.val (.ref x), .val (.ref y), .val (.ref y)] [(.ref x)])) rfl rfl (hb hby d_prog_1_method_6_code_15)
  have c9 : Steps p.tables e below S0 (T8.setTop (mkF m 18 #[.val (.ref x), .val (.ref y), .val (.ref y)] [(.ref u)])) := c7.trans (st8 _ (Steps.refl _))
  have c10 : Steps p.tables e below S0 (T8.setTop (mkF m 19 #[.val (.ref x), .val (.ref y), .val (.ref y)] [(.ref y), (.ref u)])) := c9.trans (by
    show Steps p.tables e below (T8.setTop (mkF m 18 #[.val (.ref x), .val (.ref y), .val (.ref y)] [(.ref u)])) _
    refine XS.aloadN X8.here hx rfl (hb hby d_prog_1_method_6_code_18) rfl rfl ?_
    exact Steps.refl _)
  obtain ⟨T11, X11, e11, st11⟩ := getF X8 hx hZ hown (host := "") (Or.inl (hw _ (List.mem_of_getElem? (i := 112) rfl))) Via.refl e8 G0 (g := (mkF m 19 #[.val (.ref x), .val (.ref y), .val (.ref y)] [(.ref y), (.ref u)])) rfl rfl (hb hby d_prog_1_method_6_code_19)
  have c12 : Steps p.tables e below S0 (T11.setTop (mkF m 22 #[.val (.ref x), .val (.ref y), .val (.ref y)] [(.ref u2), (.ref u)])) := c10.trans (st11 _ (Steps.refl _))
  by_cases hq13 : ((.ref u) : Value) = (.ref u2)
  · have c14 : Steps p.tables e below S0 (T11.setTop (mkF m 26 #[.val (.ref x), .val (.ref y), .val (.ref y)] [(.ref x)])) := c12.trans (by
      show Steps p.tables e below (T11.setTop (mkF m 22 #[.val (.ref x), .val (.ref y), .val (.ref y)] [(.ref u2), (.ref u)])) _
      refine Jvm.RoadKit.acmp (g := (mkF m 22 #[.val (.ref x), .val (.ref y), .val (.ref y)] [(.ref u2), (.ref u)])) X11 hx rfl rfl rfl (pc0 := 22) (pc' := 25) (same := true) rfl (hb hby d_prog_1_method_6_code_22) rfl (decide_eq_true hq13) (by decide) (by decide) ?_
      show Steps p.tables e below (T11.setTop (mkF m 25 #[.val (.ref x), .val (.ref y), .val (.ref y)] [])) _
      refine XS.aloadN X11.here hx rfl (hb hby d_prog_1_method_6_code_25) rfl rfl ?_
      exact Steps.refl _)
    obtain ⟨T15, X15, e15, st15⟩ := getF X11 hx hZ hown (host := "") (Or.inl (hw _ (List.mem_of_getElem? (i := 114) rfl))) Via.refl e11 F1 (g := (mkF m 26 #[.val (.ref x), .val (.ref y), .val (.ref y)] [(.ref x)])) rfl rfl (hb hby d_prog_1_method_6_code_26)
    have c16 : Steps p.tables e below S0 (T15.setTop (mkF m 29 #[.val (.ref x), .val (.ref y), .val (.ref y)] [.null])) := c14.trans (st15 _ (Steps.refl _))
    have c17 : Steps p.tables e below S0 (T15.setTop (mkF m 30 #[.val (.ref x), .val (.ref y), .val (.ref y)] [(.ref y), .null])) := c16.trans (by
      show Steps p.tables e below (T15.setTop (mkF m 29 #[.val (.ref x), .val (.ref y), .val (.ref y)] [.null])) _
      refine XS.aloadN X15.here hx rfl (hb hby d_prog_1_method_6_code_29) rfl rfl ?_
      exact Steps.refl _)
    obtain ⟨T18, X18, e18, st18⟩ := getF X15 hx hZ hown (host := "") (Or.inl (hw _ (List.mem_of_getElem? (i := 114) rfl))) Via.refl e15 G1 (g := (mkF m 30 #[.val (.ref x), .val (.ref y), .val (.ref y)] [(.ref y), .null])) rfl rfl (hb hby d_prog_1_method_6_code_30)
    have c19 : Steps p.tables e below S0 (T18.setTop (mkF m 33 #[.val (.ref x), .val (.ref y), .val (.ref y)] [cv, .null])) := c17.trans (st18 _ (Steps.refl _))
    by_cases hq20 : (.null : Value) = cv
    · have c21 : Steps p.tables e below S0 (T18.setTop (mkF m 37 #[.val (.ref x), .val (.ref y), .val (.ref y)] [(.ref x)])) := c19.trans (by
        show Steps p.tables e below (T18.setTop (mkF m 33 #[.val (.ref x), .val (.ref y), .val (.ref y)] [cv, .null])) _
        refine Jvm.RoadKit.acmp (g := (mkF m 33 #[.val (.ref x), .val (.ref y), .val (.ref y)] [cv, .null])) X18 hx rfl rfl hcv (pc0 := 33) (pc' := 36) (same := true) rfl (hb hby d_prog_1_method_6_code_33) rfl (decide_eq_true hq20) (by decide) (by decide) ?_
        show Steps p.tables e below (T18.setTop (mkF m 36 #[.val (.ref x), .val (.ref y), .val (.ref y)] [])) _
        refine XS.aloadN X18.here hx rfl (hb hby d_prog_1_method_6_code_36) rfl rfl ?_
        exact Steps.refl _)
      obtain ⟨T22, X22, e22, st22⟩ := getF X18 hx hZ hown (host := "") (Or.inl (hw _ (List.mem_of_getElem? (i := 116) rfl))) Via.refl e18 F2 (g := (mkF m 37 #[.val (.ref x), .val (.ref y), .val (.ref y)] [(.ref x)])) rfl rfl (hb hby d_prog_1_method_6_code_37)
      have c23 : Steps p.tables e below S0 (T22.setTop (mkF m 40 #[.val (.ref x), .val (.ref y), .val (.ref y)] [.null])) := c21.trans (st22 _ (Steps.refl _))
      have c24 : Steps p.tables e below S0 (T22.setTop (mkF m 41 #[.val (.ref x), .val (.ref y), .val (.ref y)] [(.ref y), .null])) := c23.trans (by
        show Steps p.tables e below (T22.setTop (mkF m 40 #[.val (.ref x), .val (.ref y), .val (.ref y)] [.null])) _
        refine XS.aloadN X22.here hx rfl (hb hby d_prog_1_method_6_code_40) rfl rfl ?_
        exact Steps.refl _)
      obtain ⟨T25, X25, e25, st25⟩ := getF X22 hx hZ hown (host := "") (Or.inl (hw _ (List.mem_of_getElem? (i := 116) rfl))) Via.refl e22 G2 (g := (mkF m 41 #[.val (.ref x), .val (.ref y), .val (.ref y)] [(.ref y), .null])) rfl rfl (hb hby d_prog_1_method_6_code_41)
      have c26 : Steps p.tables e below S0 (T25.setTop (mkF m 44 #[.val (.ref x), .val (.ref y), .val (.ref y)] [tv, .null])) := c24.trans (st25 _ (Steps.refl _))
      obtain ⟨_, _, ⟨T27, L27, kk27, nn27⟩, -, X27, ⟨Lc27, hQ27, l27, y27, z27⟩, st27⟩ := Jvm.LawKit.callS X25 hx (y := (⟨"java/util/Objects", "equals", "(Ljava/lang/Object;Ljava/lang/Object;)Z"⟩ : MethodName)) hown (mvT hZ (hw _ (List.mem_of_getElem? (i := 126) rfl))) (mvT hZ (hw _ (List.mem_of_getElem? (i := 127) rfl))) (mvT hZ (hw _ (List.mem_of_getElem? (i := 105) rfl))) (mvT hZ (hw _ (List.mem_of_getElem? (i := 128) rfl))) (by decide) (backOf (W := 0) (rmOe l Z a0 hw [] tv h0 n0 Z0 htv) hZ (hw _ (List.mem_of_getElem? (i := 128) rfl)) (hw _ (List.mem_of_getElem? (i := 105) rfl)) (by decide) (by decide)) (g := (mkF m 44 #[.val (.ref x), .val (.ref y), .val (.ref y)] [tv, .null])) rfl (by rw [hml]; rfl) (argsL := [.null, tv]) (rest := []) (lenOf pd_oLjavaslangsObjecteLjavaslangsObjectecZ rfl) rfl (by show 2 * 0 + _ ≤ _; exact Nat.le_of_eq rfl) (hb hby d_prog_1_method_6_code_44) (fun _ _ => ⟨rfl, e25, (by decide : 0 + 0 ≤ _), (by decide : 0 + 0 ≤ _)⟩)
      dsimp only [Pt.U, Pt.locs, Pt.cells, Pt.slots] at X27 l27 y27 z27 st27 hQ27
      subst l27 y27 z27
      obtain ⟨r27, rfl, hr27, Nq27, eq27⟩ := hQ27
      have c28 : Steps p.tables e below S0 (T27.setTop (mkF m 47 #[.val (.ref x), .val (.ref y), .val (.ref y)] [(.int r27)])) := c26.trans (st27 _ (Steps.refl _))
      have N27 := Fr.app N0 Nq27
      by_cases hq29 : r27 = (0 : Int32)
      · have c30 : Steps p.tables e below S0 (T27.setTop (mkF m 55 #[.val (.ref x), .val (.ref y), .val (.ref y)] [(.int (0 : Int32))])) := c28.trans (by
          show Steps p.tables e below (T27.setTop (mkF m 47 #[.val (.ref x), .val (.ref y), .val (.ref y)] [(.int r27)])) _
          refine XS.ifYes X27.here hx rfl (pc0 := 47) (pc' := 54) rfl (hb hby d_prog_1_method_6_code_47) rfl ((if0 _ _).trans (teq hq29).1) (by decide) (by decide) ?_
          show Steps p.tables e below (T27.setTop (mkF m 54 #[.val (.ref x), .val (.ref y), .val (.ref y)] [])) _
          refine XS.iconst X27.here hx rfl (hb hby d_prog_1_method_6_code_54) ?_
          exact Steps.refl _)
        obtain ⟨fs, hr, hrun, hended, hW, hsame⟩ := X27.leave (v := some (.int (0 : Int32))) (fun h => by rw [Bd.returns] at h; cases h)
        refine ⟨_, _, c30.trans (retOut X27 hx Bd.returns rfl (Or.inl ⟨rfl, by simp, _, rfl⟩) (hb hby d_prog_1_method_6_code_55) hr), hrun, hended, _, _, rfl, ?_, ⟨_, rfl⟩, hW, hsame.mono (by decide) (by decide)⟩
        show Qeq Z u u2 cv tv h0 n0 _ T27.heap _
        rw [eq27]
        exact ⟨_, rfl, Or.inr ⟨rfl, fun q => own_n hr27 hq29 q.2.2⟩, N27, rfl⟩
      · have c31 : Steps p.tables e below S0 (T27.setTop (mkF m 55 #[.val (.ref x), .val (.ref y), .val (.ref y)] [(.int (1 : Int32))])) := c28.trans (by
          show Steps p.tables e below (T27.setTop (mkF m 47 #[.val (.ref x), .val (.ref y), .val (.ref y)] [(.int r27)])) _
          refine XS.ifNo X27.here hx rfl (hb hby d_prog_1_method_6_code_47) rfl ((if0 _ _).trans (feq hq29).1) ?_
          show Steps p.tables e below (T27.setTop (mkF m 50 #[.val (.ref x), .val (.ref y), .val (.ref y)] [])) _
          refine XS.iconst X27.here hx rfl (hb hby d_prog_1_method_6_code_50) ?_
          show Steps p.tables e below (T27.setTop (mkF m 51 #[.val (.ref x), .val (.ref y), .val (.ref y)] [(.int (1 : Int32))])) _
          refine XS.goto X27.here hx rfl (pc0 := 51) (pc' := 55) rfl (hb hby d_prog_1_method_6_code_51) (by decide) (by decide) ?_
          exact Steps.refl _)
        obtain ⟨fs, hr, hrun, hended, hW, hsame⟩ := X27.leave (v := some (.int (1 : Int32))) (fun h => by rw [Bd.returns] at h; cases h)
        refine ⟨_, _, c31.trans (retOut X27 hx Bd.returns rfl (Or.inl ⟨rfl, by simp, _, rfl⟩) (hb hby d_prog_1_method_6_code_55) hr), hrun, hended, _, _, rfl, ?_, ⟨_, rfl⟩, hW, hsame.mono (by decide) (by decide)⟩
        show Qeq Z u u2 cv tv h0 n0 _ T27.heap _
        rw [eq27]
        exact ⟨_, rfl, Or.inl ⟨rfl, Value.ref.inj hq13, hq20.symm, own_y hr27 hq29⟩, N27, rfl⟩
    · have c32 : Steps p.tables e below S0 (T18.setTop (mkF m 55 #[.val (.ref x), .val (.ref y), .val (.ref y)] [(.int (0 : Int32))])) := c19.trans (by
        show Steps p.tables e below (T18.setTop (mkF m 33 #[.val (.ref x), .val (.ref y), .val (.ref y)] [cv, .null])) _
        refine Jvm.RoadKit.acmp (g := (mkF m 33 #[.val (.ref x), .val (.ref y), .val (.ref y)] [cv, .null])) X18 hx rfl rfl hcv (pc0 := 33) (pc' := 54) (same := false) rfl (hb hby d_prog_1_method_6_code_33) rfl (decide_eq_false hq20) (by decide) (by decide) ?_
        show Steps p.tables e below (T18.setTop (mkF m 54 #[.val (.ref x), .val (.ref y), .val (.ref y)] [])) _
        refine XS.iconst X18.here hx rfl (hb hby d_prog_1_method_6_code_54) ?_
        exact Steps.refl _)
      obtain ⟨fs, hr, hrun, hended, hW, hsame⟩ := X18.leave (v := some (.int (0 : Int32))) (fun h => by rw [Bd.returns] at h; cases h)
      refine ⟨_, _, c32.trans (retOut X18 hx Bd.returns rfl (Or.inl ⟨rfl, by simp, _, rfl⟩) (hb hby d_prog_1_method_6_code_55) hr), hrun, hended, _, _, rfl, ?_, ⟨_, rfl⟩, hW, hsame.mono (by decide) (by decide)⟩
      show Qeq Z u u2 cv tv h0 n0 _ T18.heap _
      rw [e18]
      exact ⟨_, rfl, Or.inr ⟨rfl, fun q => hq20 q.2.1.symm⟩, N0, rfl⟩
  · have c33 : Steps p.tables e below S0 (T11.setTop (mkF m 55 #[.val (.ref x), .val (.ref y), .val (.ref y)] [(.int (0 : Int32))])) := c12.trans (by
      show Steps p.tables e below (T11.setTop (mkF m 22 #[.val (.ref x), .val (.ref y), .val (.ref y)] [(.ref u2), (.ref u)])) _
      refine Jvm.RoadKit.acmp (g := (mkF m 22 #[.val (.ref x), .val (.ref y), .val (.ref y)] [(.ref u2), (.ref u)])) X11 hx rfl rfl rfl (pc0 := 22) (pc' := 54) (same := false) rfl (hb hby d_prog_1_method_6_code_22) rfl (decide_eq_false hq13) (by decide) (by decide) ?_
      show Steps p.tables e below (T11.setTop (mkF m 54 #[.val (.ref x), .val (.ref y), .val (.ref y)] [])) _
      refine XS.iconst X11.here hx rfl (hb hby d_prog_1_method_6_code_54) ?_
      exact Steps.refl _)
    obtain ⟨fs, hr, hrun, hended, hW, hsame⟩ := X11.leave (v := some (.int (0 : Int32))) (fun h => by rw [Bd.returns] at h; cases h)
    refine ⟨_, _, c33.trans (retOut X11 hx Bd.returns rfl (Or.inl ⟨rfl, by simp, _, rfl⟩) (hb hby d_prog_1_method_6_code_55) hr), hrun, hended, _, _, rfl, ?_, ⟨_, rfl⟩, hW, hsame.mono (by decide) (by decide)⟩
    show Qeq Z u u2 cv tv h0 n0 _ T11.heap _
    rw [e11]
    exact ⟨_, rfl, Or.inr ⟨rfl, fun q => hq13 (congrArg Value.ref q.1)⟩, N0, rfl⟩

theorem own_getref {us : List Addr} {a : Nat} (h : a < us.length) (h2 : a < 2147483648) : (us.map Value.ref).getD (Int32.ofNat a).toNatClampNeg .null = .ref (us.getD a 0) := by
  rw [clamp_of rfl h2]
  simp [List.getD_eq_getElem?_getD, h]
def Q0 (Z : State) (h0 : Heap) (n0 : Nat) (v : Option Value) (h : Heap) (L : List Loc) : Prop := v = some (.int 1) ∧ Fr n0 L

theorem own_cmp {a b : Nat} (ha : a < 21) (hb : b < 21) {v r : Int32} {u u2 : Addr} (hv : v = if Int32.ofNat a = Int32.ofNat b then 1 else 0) (h1 : a = b → u = u2) (h2 : Value.int (Int32.ofNat a) ≠ Value.int (Int32.ofNat b) → u ≠ u2) (h : TF r (u = u2 ∧ Value.null = .null ∧ Value.null = .null)) : r = v := by
  by_cases q : a = b
  · rw [hv, if_pos (by rw [q])]; exact own_is1 h ⟨h1 q, rfl, rfl⟩
  · have e : ¬ Int32.ofNat a = Int32.ofNat b := fun z => q ((own_ofN_inj (by omega) (by omega)).mp z)
    rw [hv, if_neg e]; exact own_is0 h fun z => h2 (fun y => e (Value.int.inj y)) z.1

theorem pd_ocaLcomsexamplescabin_audio_policyscabinaudiopolicysAudioUsagee : parseMethodDescriptor "()[Lcom/example/cabin_audio_policy/cabinaudiopolicy/AudioUsage;" = some ⟨[], some (.array (.object "com/example/cabin_audio_policy/cabinaudiopolicy/AudioUsage"))⟩ := by decide +kernel
theorem pd_ocaLcomsexamplescabin_audio_policyscabinaudiopolicysAudioContentTypee : parseMethodDescriptor "()[Lcom/example/cabin_audio_policy/cabinaudiopolicy/AudioContentType;" = some ⟨[], some (.array (.object "com/example/cabin_audio_policy/cabinaudiopolicy/AudioContentType"))⟩ := by decide +kernel
theorem pd_oCcLjavaslangsStringe : parseMethodDescriptor "(C)Ljava/lang/String;" = some ⟨[.char], some (.object "java/lang/String")⟩ := by decide +kernel
theorem pd_oLcomsexamplescabin_audio_policyscabinaudiopolicysAudioUsageecLcomsexamplescabin_audio_policyscabinaudiopolicysAudioAttributese : parseMethodDescriptor "(Lcom/example/cabin_audio_policy/cabinaudiopolicy/AudioUsage;)Lcom/example/cabin_audio_policy/cabinaudiopolicy/AudioAttributes;" = some ⟨[(.object "com/example/cabin_audio_policy/cabinaudiopolicy/AudioUsage")], some (.object "com/example/cabin_audio_policy/cabinaudiopolicy/AudioAttributes")⟩ := by decide +kernel
theorem pd_oLjavaslangsObjectecZ : parseMethodDescriptor "(Ljava/lang/Object;)Z" = some ⟨[(.object "java/lang/Object")], some .boolean⟩ := by decide +kernel
theorem pd_oaCcV : parseMethodDescriptor "([C)V" = some ⟨[(.array .char)], none⟩ := by decide +kernel
theorem ef_rm0 (m : MethodId) (x0 : Int32) (x1 : Int32) (x2 : Int32) (x3 : Int32) (x4 : Int32) : entryFrame m #[(.int x0), (.int x1), (.int x2), (.int x3), (.int x4)] maxLocals = mkF m 0 #[.val (.int x0), .val (.int x1), .val (.int x2), .val (.int x3), .val (.int x4), .unset, .unset, .unset, .unset, .unset, .unset, .unset, .unset, .unset, .unset, .unset, .unset, .unset, .unset, .unset, .unset, .unset, .unset, .unset] [] := by first | (simp [entryFrame, mkF, argsToLocals, Value.category, maxLocals]; done) | rfl
set_option maxRecDepth 65536 in
set_option maxHeartbeats 40000000 in
theorem rm0 (l : Launch) (Z : State) (a0 : Array Value) (hw : ∀ d ∈ tables_1, d.before a0 Z = true) (ws : List Jvm.Cond) (p0 p1 p2 p3 p4 : Int32) (u0 u1 u2 u3 u4 u5 u6 u7 u8 u9 u10 u11 u12 u13 u14 u15 u16 u17 u18 u19 u20 : Addr) (ct0 ct1 ct2 ct3 ct4 ct5 : Addr) (G1 : Int32) (h0 : Heap) (n0 : Nat) (Z0 : n0 ≤ h0.size) (su0 : Sta Z Z.heap "com/example/cabin_audio_policy/cabinaudiopolicy/AudioUsage" "UNKNOWN" "Lcom/example/cabin_audio_policy/cabinaudiopolicy/AudioUsage;" (.ref u0)) (xu0 : Exa Z Z.heap u0 "com/example/cabin_audio_policy/cabinaudiopolicy/AudioUsage") (su1 : Sta Z Z.heap "com/example/cabin_audio_policy/cabinaudiopolicy/AudioUsage" "MEDIA" "Lcom/example/cabin_audio_policy/cabinaudiopolicy/AudioUsage;" (.ref u1)) (xu1 : Exa Z Z.heap u1 "com/example/cabin_audio_policy/cabinaudiopolicy/AudioUsage") (su2 : Sta Z Z.heap "com/example/cabin_audio_policy/cabinaudiopolicy/AudioUsage" "GAME" "Lcom/example/cabin_audio_policy/cabinaudiopolicy/AudioUsage;" (.ref u2)) (xu2 : Exa Z Z.heap u2 "com/example/cabin_audio_policy/cabinaudiopolicy/AudioUsage") (su3 : Sta Z Z.heap "com/example/cabin_audio_policy/cabinaudiopolicy/AudioUsage" "ASSISTANCE_NAVIGATION_GUIDANCE" "Lcom/example/cabin_audio_policy/cabinaudiopolicy/AudioUsage;" (.ref u3)) (xu3 : Exa Z Z.heap u3 "com/example/cabin_audio_policy/cabinaudiopolicy/AudioUsage") (su4 : Sta Z Z.heap "com/example/cabin_audio_policy/cabinaudiopolicy/AudioUsage" "ASSISTANT" "Lcom/example/cabin_audio_policy/cabinaudiopolicy/AudioUsage;" (.ref u4)) (xu4 : Exa Z Z.heap u4 "com/example/cabin_audio_policy/cabinaudiopolicy/AudioUsage") (su5 : Sta Z Z.heap "com/example/cabin_audio_policy/cabinaudiopolicy/AudioUsage" "ASSISTANCE_ACCESSIBILITY" "Lcom/example/cabin_audio_policy/cabinaudiopolicy/AudioUsage;" (.ref u5)) (xu5 : Exa Z Z.heap u5 "com/example/cabin_audio_policy/cabinaudiopolicy/AudioUsage") (su6 : Sta Z Z.heap "com/example/cabin_audio_policy/cabinaudiopolicy/AudioUsage" "NOTIFICATION_TELEPHONY_RINGTONE" "Lcom/example/cabin_audio_policy/cabinaudiopolicy/AudioUsage;" (.ref u6)) (xu6 : Exa Z Z.heap u6 "com/example/cabin_audio_policy/cabinaudiopolicy/AudioUsage") (su7 : Sta Z Z.heap "com/example/cabin_audio_policy/cabinaudiopolicy/AudioUsage" "VOICE_COMMUNICATION" "Lcom/example/cabin_audio_policy/cabinaudiopolicy/AudioUsage;" (.ref u7)) (xu7 : Exa Z Z.heap u7 "com/example/cabin_audio_policy/cabinaudiopolicy/AudioUsage") (su8 : Sta Z Z.heap "com/example/cabin_audio_policy/cabinaudiopolicy/AudioUsage" "CALL_ASSISTANT" "Lcom/example/cabin_audio_policy/cabinaudiopolicy/AudioUsage;" (.ref u8)) (xu8 : Exa Z Z.heap u8 "com/example/cabin_audio_policy/cabinaudiopolicy/AudioUsage") (su9 : Sta Z Z.heap "com/example/cabin_audio_policy/cabinaudiopolicy/AudioUsage" "VOICE_COMMUNICATION_SIGNALLING" "Lcom/example/cabin_audio_policy/cabinaudiopolicy/AudioUsage;" (.ref u9)) (xu9 : Exa Z Z.heap u9 "com/example/cabin_audio_policy/cabinaudiopolicy/AudioUsage") (su10 : Sta Z Z.heap "com/example/cabin_audio_policy/cabinaudiopolicy/AudioUsage" "ALARM" "Lcom/example/cabin_audio_policy/cabinaudiopolicy/AudioUsage;" (.ref u10)) (xu10 : Exa Z Z.heap u10 "com/example/cabin_audio_policy/cabinaudiopolicy/AudioUsage") (su11 : Sta Z Z.heap "com/example/cabin_audio_policy/cabinaudiopolicy/AudioUsage" "NOTIFICATION" "Lcom/example/cabin_audio_policy/cabinaudiopolicy/AudioUsage;" (.ref u11)) (xu11 : Exa Z Z.heap u11 "com/example/cabin_audio_policy/cabinaudiopolicy/AudioUsage") (su12 : Sta Z Z.heap "com/example/cabin_audio_policy/cabinaudiopolicy/AudioUsage" "NOTIFICATION_EVENT" "Lcom/example/cabin_audio_policy/cabinaudiopolicy/AudioUsage;" (.ref u12)) (xu12 : Exa Z Z.heap u12 "com/example/cabin_audio_policy/cabinaudiopolicy/AudioUsage") (su13 : Sta Z Z.heap "com/example/cabin_audio_policy/cabinaudiopolicy/AudioUsage" "NOTIFICATION_COMMUNICATION_REQUEST" "Lcom/example/cabin_audio_policy/cabinaudiopolicy/AudioUsage;" (.ref u13)) (xu13 : Exa Z Z.heap u13 "com/example/cabin_audio_policy/cabinaudiopolicy/AudioUsage") (su14 : Sta Z Z.heap "com/example/cabin_audio_policy/cabinaudiopolicy/AudioUsage" "NOTIFICATION_COMMUNICATION_INSTANT" "Lcom/example/cabin_audio_policy/cabinaudiopolicy/AudioUsage;" (.ref u14)) (xu14 : Exa Z Z.heap u14 "com/example/cabin_audio_policy/cabinaudiopolicy/AudioUsage") (su15 : Sta Z Z.heap "com/example/cabin_audio_policy/cabinaudiopolicy/AudioUsage" "NOTIFICATION_COMMUNICATION_DELAYED" "Lcom/example/cabin_audio_policy/cabinaudiopolicy/AudioUsage;" (.ref u15)) (xu15 : Exa Z Z.heap u15 "com/example/cabin_audio_policy/cabinaudiopolicy/AudioUsage") (su16 : Sta Z Z.heap "com/example/cabin_audio_policy/cabinaudiopolicy/AudioUsage" "ASSISTANCE_SONIFICATION" "Lcom/example/cabin_audio_policy/cabinaudiopolicy/AudioUsage;" (.ref u16)) (xu16 : Exa Z Z.heap u16 "com/example/cabin_audio_policy/cabinaudiopolicy/AudioUsage") (su17 : Sta Z Z.heap "com/example/cabin_audio_policy/cabinaudiopolicy/AudioUsage" "EMERGENCY" "Lcom/example/cabin_audio_policy/cabinaudiopolicy/AudioUsage;" (.ref u17)) (xu17 : Exa Z Z.heap u17 "com/example/cabin_audio_policy/cabinaudiopolicy/AudioUsage") (su18 : Sta Z Z.heap "com/example/cabin_audio_policy/cabinaudiopolicy/AudioUsage" "SAFETY" "Lcom/example/cabin_audio_policy/cabinaudiopolicy/AudioUsage;" (.ref u18)) (xu18 : Exa Z Z.heap u18 "com/example/cabin_audio_policy/cabinaudiopolicy/AudioUsage") (su19 : Sta Z Z.heap "com/example/cabin_audio_policy/cabinaudiopolicy/AudioUsage" "VEHICLE_STATUS" "Lcom/example/cabin_audio_policy/cabinaudiopolicy/AudioUsage;" (.ref u19)) (xu19 : Exa Z Z.heap u19 "com/example/cabin_audio_policy/cabinaudiopolicy/AudioUsage") (su20 : Sta Z Z.heap "com/example/cabin_audio_policy/cabinaudiopolicy/AudioUsage" "ANNOUNCEMENT" "Lcom/example/cabin_audio_policy/cabinaudiopolicy/AudioUsage;" (.ref u20)) (xu20 : Exa Z Z.heap u20 "com/example/cabin_audio_policy/cabinaudiopolicy/AudioUsage") (sct0 : Sta Z Z.heap "com/example/cabin_audio_policy/cabinaudiopolicy/AudioContentType" "UNKNOWN" "Lcom/example/cabin_audio_policy/cabinaudiopolicy/AudioContentType;" (.ref ct0)) (xct0 : Exa Z Z.heap ct0 "com/example/cabin_audio_policy/cabinaudiopolicy/AudioContentType") (sct1 : Sta Z Z.heap "com/example/cabin_audio_policy/cabinaudiopolicy/AudioContentType" "SPEECH" "Lcom/example/cabin_audio_policy/cabinaudiopolicy/AudioContentType;" (.ref ct1)) (xct1 : Exa Z Z.heap ct1 "com/example/cabin_audio_policy/cabinaudiopolicy/AudioContentType") (sct2 : Sta Z Z.heap "com/example/cabin_audio_policy/cabinaudiopolicy/AudioContentType" "MUSIC" "Lcom/example/cabin_audio_policy/cabinaudiopolicy/AudioContentType;" (.ref ct2)) (xct2 : Exa Z Z.heap ct2 "com/example/cabin_audio_policy/cabinaudiopolicy/AudioContentType") (sct3 : Sta Z Z.heap "com/example/cabin_audio_policy/cabinaudiopolicy/AudioContentType" "MOVIE" "Lcom/example/cabin_audio_policy/cabinaudiopolicy/AudioContentType;" (.ref ct3)) (xct3 : Exa Z Z.heap ct3 "com/example/cabin_audio_policy/cabinaudiopolicy/AudioContentType") (sct4 : Sta Z Z.heap "com/example/cabin_audio_policy/cabinaudiopolicy/AudioContentType" "SONIFICATION" "Lcom/example/cabin_audio_policy/cabinaudiopolicy/AudioContentType;" (.ref ct4)) (xct4 : Exa Z Z.heap ct4 "com/example/cabin_audio_policy/cabinaudiopolicy/AudioContentType") (sct5 : Sta Z Z.heap "com/example/cabin_audio_policy/cabinaudiopolicy/AudioContentType" "ULTRASOUND" "Lcom/example/cabin_audio_policy/cabinaudiopolicy/AudioContentType;" (.ref ct5)) (xct5 : Exa Z Z.heap ct5 "com/example/cabin_audio_policy/cabinaudiopolicy/AudioContentType") (hUx : ∀ a, a < 21 → Exa Z Z.heap (([u0, u1, u2, u3, u4, u5, u6, u7, u8, u9, u10, u11, u12, u13, u14, u15, u16, u17, u18, u19, u20] : List Addr).getD a 0) "com/example/cabin_audio_policy/cabinaudiopolicy/AudioUsage") (hUo : ∀ a, a < 21 → Fld Z Z.heap (([u0, u1, u2, u3, u4, u5, u6, u7, u8, u9, u10, u11, u12, u13, u14, u15, u16, u17, u18, u19, u20] : List Addr).getD a 0) "java/lang/Enum" "ordinal" "I" (.int (Int32.ofNat a))) (hCx : ∀ a, a < 6 → Exa Z Z.heap (([ct0, ct1, ct2, ct3, ct4, ct5] : List Addr).getD a 0) "com/example/cabin_audio_policy/cabinaudiopolicy/AudioContentType") (O2 : Sta Z Z.heap "java/lang/String" "COMPACT_STRINGS" "Z" (.int G1)) (P5 : ¬ G1 = 0) (X00 : Old Z n0 h0) :
    MetFree l x (head1 (Jvm.Cond.code x code maxLocals ret :: ws) room_1) (fun aa U => aa = #[(.int p0), (.int p1), (.int p2), (.int p3), (.int p4)] ∧ Z.Warmed39 U.vm ∧ U.heap = h0) (fun _ _ _ _ _ => True) (fun _ U o U' => ∃ v L, o = .returned v ∧ Q0 Z  h0 n0 v U'.heap L ∧ FrameEnd U o U' L room_1.cells room_1.slots) := by
  refine MetFree.of_bodySF (plainFor_of_name pn_com_example_cabin_audio_policy_cabinaudiopolicy_AudioAttributesOfPinLaw) hisR ?_
  intro p e s m args below meth c s₁ Bd hml0 hP hK
  obtain ⟨rfl, hZ, hh⟩ := hP
  have hx := Bd.exec
  have hby := Bd.bytes
  have hml : c.maxLocals = 24 := hml0
  have hown : s.vm.findClass "com/example/cabin_audio_policy/cabinaudiopolicy/AudioAttributesOfPinLaw" = some m.cls := findClass_of_methodNamed Bd.named
  have hnm := (name_of_methodNamed Bd.named Bd.method).1
  have X0 : Stand p l e room_1 s m #[(.int p0), (.int p1), (.int p2), (.int p3), (.int p4)] below meth c s₁ [] 0 0 := Stand.of_body Bd
  have e0 : s₁.heap = h0 := by rw [← hh, Bd.state]; rfl
  have N0 := Fr.nil n0
  have K0 := Keep.refl h0 []
  obtain ⟨S0, hS0⟩ : ∃ z, z = s₁.setTop (entryFrame m #[(.int p0), (.int p1), (.int p2), (.int p3), (.int p4)] maxLocals) := ⟨_, rfl⟩
  rw [← hS0]
  have c0 : Steps p.tables e below S0 (s₁.setTop (mkF m 0 #[.val (.int p0), .val (.int p1), .val (.int p2), .val (.int p3), .val (.int p4), .unset, .unset, .unset, .unset, .unset, .unset, .unset, .unset, .unset, .unset, .unset, .unset, .unset, .unset, .unset, .unset, .unset, .unset, .unset] [])) := by
    rw [hS0]; exact castTop (ef_rm0 m p0 p1 p2 p3 p4) (Steps.refl _)
  obtain ⟨_, _, ⟨T1, L1, kk1, nn1⟩, -, X1, ⟨Lc1, hQ1, l1, y1, z1⟩, st1⟩ := Jvm.LawKit.callS X0 hx (y := (⟨"com/example/cabin_audio_policy/cabinaudiopolicy/AudioAttributesOfPinLaw", "usages", "()[Lcom/example/cabin_audio_policy/cabinaudiopolicy/AudioUsage;"⟩ : MethodName)) hown (mvT hZ (hw _ (List.mem_of_getElem? (i := 0) rfl))) (mvT hZ (hw _ (List.mem_of_getElem? (i := 1) rfl))) (mvT hZ (hw _ (List.mem_of_getElem? (i := 2) rfl))) (mvT hZ (hw _ (List.mem_of_getElem? (i := 3) rfl))) (by decide) (backOf (W := 0) (rmUs l Z a0 hw [] u0 u1 u2 u3 u4 u5 u6 u7 u8 u9 u10 u11 u12 u13 u14 u15 u16 u17 u18 u19 u20 h0 n0 Z0 su0 xu0 su1 xu1 su2 xu2 su3 xu3 su4 xu4 su5 xu5 su6 xu6 su7 xu7 su8 xu8 su9 xu9 su10 xu10 su11 xu11 su12 xu12 su13 xu13 su14 xu14 su15 xu15 su16 xu16 su17 xu17 su18 xu18 su19 xu19 su20 xu20 X00) hZ (hw _ (List.mem_of_getElem? (i := 3) rfl)) (hw _ (List.mem_of_getElem? (i := 2) rfl)) (by decide) (by decide)) (g := (mkF m 0 #[.val (.int p0), .val (.int p1), .val (.int p2), .val (.int p3), .val (.int p4), .unset, .unset, .unset, .unset, .unset, .unset, .unset, .unset, .unset, .unset, .unset, .unset, .unset, .unset, .unset, .unset, .unset, .unset, .unset] [])) rfl (by rw [hml]; rfl) (argsL := []) (rest := []) (lenOf pd_ocaLcomsexamplescabin_audio_policyscabinaudiopolicysAudioUsagee rfl) rfl (by show 2 * 0 + _ ≤ _; exact Nat.le_of_eq rfl) (hb hby at_0) (fun _ _ => ⟨rfl, e0, (by decide : 0 + 1 ≤ _), (by decide : 0 + 21 ≤ _)⟩)
  dsimp only [Pt.U, Pt.locs, Pt.cells, Pt.slots] at X1 l1 y1 z1 st1 hQ1
  subst l1 y1 z1
  obtain ⟨b1, k1, rfl, Nq1, Kq1, gb1, Vb1⟩ := hQ1
  have c2 : Steps p.tables e below S0 (T1.setTop (mkF m 3 #[.val (.int p0), .val (.int p1), .val (.int p2), .val (.int p3), .val (.int p4), .unset, .unset, .unset, .unset, .unset, .unset, .unset, .unset, .unset, .unset, .unset, .unset, .unset, .unset, .unset, .unset, .unset, .unset, .unset] [(.ref b1)])) := c0.trans (st1 _ (Steps.refl _))
  have N1 := Fr.app N0 Nq1
  have z1 : n0 ≤ T1.heap.size := Nat.le_trans Z0 Kq1.1
  have K1 := K0.trans Kq1 all0
  have lt_b1 := Vb1.lt
  have c3 : Steps p.tables e below S0 (T1.setTop (mkF m 5 #[.val (.int p0), .val (.int p1), .val (.int p2), .val (.int p3), .val (.int p4), .val (.ref b1), .unset, .unset, .unset, .unset, .unset, .unset, .unset, .unset, .unset, .unset, .unset, .unset, .unset, .unset, .unset, .unset, .unset, .unset] [])) := c2.trans (by
    show Steps p.tables e below (T1.setTop (mkF m 3 #[.val (.int p0), .val (.int p1), .val (.int p2), .val (.int p3), .val (.int p4), .unset, .unset, .unset, .unset, .unset, .unset, .unset, .unset, .unset, .unset, .unset, .unset, .unset, .unset, .unset, .unset, .unset, .unset, .unset] [(.ref b1)])) _
    refine XS.astore X1.here hx rfl (hb hby at_3) rfl rfl (l' := #[.val (.int p0), .val (.int p1), .val (.int p2), .val (.int p3), .val (.int p4), .val (.ref b1), .unset, .unset, .unset, .unset, .unset, .unset, .unset, .unset, .unset, .unset, .unset, .unset, .unset, .unset, .unset, .unset, .unset, .unset]) rfl ?_
    exact Steps.refl _)
  obtain ⟨_, _, ⟨T4, L4, kk4, nn4⟩, -, X4, ⟨Lc4, hQ4, l4, y4, z4⟩, st4⟩ := Jvm.LawKit.callS X1 hx (y := (⟨"com/example/cabin_audio_policy/cabinaudiopolicy/AudioAttributesOfPinLaw", "contentTypes", "()[Lcom/example/cabin_audio_policy/cabinaudiopolicy/AudioContentType;"⟩ : MethodName)) hown (mvT hZ (hw _ (List.mem_of_getElem? (i := 50) rfl))) (mvT hZ (hw _ (List.mem_of_getElem? (i := 51) rfl))) (mvT hZ (hw _ (List.mem_of_getElem? (i := 2) rfl))) (mvT hZ (hw _ (List.mem_of_getElem? (i := 52) rfl))) (by decide) (backOf (W := 0) (rmCs l Z a0 hw [] ct0 ct1 ct2 ct3 ct4 ct5 T1.heap n0 z1 sct0 xct0 sct1 xct1 sct2 xct2 sct3 xct3 sct4 xct4 sct5 xct5 (X00.keep Kq1 all0)) hZ (hw _ (List.mem_of_getElem? (i := 52) rfl)) (hw _ (List.mem_of_getElem? (i := 2) rfl)) (by decide) (by decide)) (g := (mkF m 5 #[.val (.int p0), .val (.int p1), .val (.int p2), .val (.int p3), .val (.int p4), .val (.ref b1), .unset, .unset, .unset, .unset, .unset, .unset, .unset, .unset, .unset, .unset, .unset, .unset, .unset, .unset, .unset, .unset, .unset, .unset] [])) rfl (by rw [hml]; rfl) (argsL := []) (rest := []) (lenOf pd_ocaLcomsexamplescabin_audio_policyscabinaudiopolicysAudioContentTypee rfl) rfl (by show 2 * 0 + _ ≤ _; exact Nat.le_of_eq rfl) (hb hby at_5) (fun _ _ => ⟨rfl, rfl, (by decide : 1 + 1 ≤ _), (by decide : 21 + 6 ≤ _)⟩)
  dsimp only [Pt.U, Pt.locs, Pt.cells, Pt.slots] at X4 l4 y4 z4 st4 hQ4
  subst l4 y4 z4
  obtain ⟨b4, k4, rfl, Nq4, Kq4, gb4, Vb4⟩ := hQ4
  have c5 : Steps p.tables e below S0 (T4.setTop (mkF m 8 #[.val (.int p0), .val (.int p1), .val (.int p2), .val (.int p3), .val (.int p4), .val (.ref b1), .unset, .unset, .unset, .unset, .unset, .unset, .unset, .unset, .unset, .unset, .unset, .unset, .unset, .unset, .unset, .unset, .unset, .unset] [(.ref b4)])) := c3.trans (st4 _ (Steps.refl _))
  have N4 := Fr.app N1 Nq4
  have z4 : n0 ≤ T4.heap.size := Nat.le_trans z1 Kq4.1
  have K4 := K1.trans Kq4 all0
  have lt_b4 := Vb4.lt
  have c6 : Steps p.tables e below S0 (T4.setTop (mkF m 19 #[.val (.int p0), .val (.int p1), .val (.int p2), .val (.int p3), .val (.int p4), .val (.ref b1), .val (.ref b4), .val (.int ((p0 &&& (2147483647 : Int32)) % (21 : Int32))), .unset, .unset, .unset, .unset, .unset, .unset, .unset, .unset, .unset, .unset, .unset, .unset, .unset, .unset, .unset, .unset] [])) := c5.trans (by
    show Steps p.tables e below (T4.setTop (mkF m 8 #[.val (.int p0), .val (.int p1), .val (.int p2), .val (.int p3), .val (.int p4), .val (.ref b1), .unset, .unset, .unset, .unset, .unset, .unset, .unset, .unset, .unset, .unset, .unset, .unset, .unset, .unset, .unset, .unset, .unset, .unset] [(.ref b4)])) _
    refine XS.astore X4.here hx rfl (hb hby at_8) rfl rfl (l' := #[.val (.int p0), .val (.int p1), .val (.int p2), .val (.int p3), .val (.int p4), .val (.ref b1), .val (.ref b4), .unset, .unset, .unset, .unset, .unset, .unset, .unset, .unset, .unset, .unset, .unset, .unset, .unset, .unset, .unset, .unset, .unset]) rfl ?_
    show Steps p.tables e below (T4.setTop (mkF m 10 #[.val (.int p0), .val (.int p1), .val (.int p2), .val (.int p3), .val (.int p4), .val (.ref b1), .val (.ref b4), .unset, .unset, .unset, .unset, .unset, .unset, .unset, .unset, .unset, .unset, .unset, .unset, .unset, .unset, .unset, .unset, .unset] [])) _
    refine XS.iloadN X4.here hx rfl (hb hby at_10) rfl ?_
    show Steps p.tables e below (T4.setTop (mkF m 11 #[.val (.int p0), .val (.int p1), .val (.int p2), .val (.int p3), .val (.int p4), .val (.ref b1), .val (.ref b4), .unset, .unset, .unset, .unset, .unset, .unset, .unset, .unset, .unset, .unset, .unset, .unset, .unset, .unset, .unset, .unset, .unset] [(.int p0)])) _
    refine X4.ldcInt hx hown (mvT hZ (hw _ (List.mem_of_getElem? (i := 69) rfl))) (g := (mkF m 11 #[.val (.int p0), .val (.int p1), .val (.int p2), .val (.int p3), .val (.int p4), .val (.ref b1), .val (.ref b4), .unset, .unset, .unset, .unset, .unset, .unset, .unset, .unset, .unset, .unset, .unset, .unset, .unset, .unset, .unset, .unset, .unset] [(.int p0)])) rfl (hb hby at_11) _ ?_
    show Steps p.tables e below (T4.setTop (mkF m 13 #[.val (.int p0), .val (.int p1), .val (.int p2), .val (.int p3), .val (.int p4), .val (.ref b1), .val (.ref b4), .unset, .unset, .unset, .unset, .unset, .unset, .unset, .unset, .unset, .unset, .unset, .unset, .unset, .unset, .unset, .unset, .unset] [(.int (2147483647 : Int32)), (.int p0)])) _
    refine XS.iand X4.here hx rfl (hb hby at_13) rfl ?_
    show Steps p.tables e below (T4.setTop (mkF m 14 #[.val (.int p0), .val (.int p1), .val (.int p2), .val (.int p3), .val (.int p4), .val (.ref b1), .val (.ref b4), .unset, .unset, .unset, .unset, .unset, .unset, .unset, .unset, .unset, .unset, .unset, .unset, .unset, .unset, .unset, .unset, .unset] [(.int (p0 &&& (2147483647 : Int32)))])) _
    refine XS.bipush X4.here hx rfl (hb hby at_14) ?_
    show Steps p.tables e below (T4.setTop (mkF m 16 #[.val (.int p0), .val (.int p1), .val (.int p2), .val (.int p3), .val (.int p4), .val (.ref b1), .val (.ref b4), .unset, .unset, .unset, .unset, .unset, .unset, .unset, .unset, .unset, .unset, .unset, .unset, .unset, .unset, .unset, .unset, .unset] [(.int (21 : Int32)), (.int (p0 &&& (2147483647 : Int32)))])) _
    refine iremM (g := (mkF m 16 #[.val (.int p0), .val (.int p1), .val (.int p2), .val (.int p3), .val (.int p4), .val (.ref b1), .val (.ref b4), .unset, .unset, .unset, .unset, .unset, .unset, .unset, .unset, .unset, .unset, .unset, .unset, .unset, .unset, .unset, .unset, .unset] [(.int (21 : Int32)), (.int (p0 &&& (2147483647 : Int32)))])) X4 hx rfl (hb hby at_16) rfl (by decide) ?_
    show Steps p.tables e below (T4.setTop (mkF m 17 #[.val (.int p0), .val (.int p1), .val (.int p2), .val (.int p3), .val (.int p4), .val (.ref b1), .val (.ref b4), .unset, .unset, .unset, .unset, .unset, .unset, .unset, .unset, .unset, .unset, .unset, .unset, .unset, .unset, .unset, .unset, .unset] [(.int ((p0 &&& (2147483647 : Int32)) % (21 : Int32)))])) _
    refine XS.istore X4.here hx rfl (hb hby at_17) rfl (l' := #[.val (.int p0), .val (.int p1), .val (.int p2), .val (.int p3), .val (.int p4), .val (.ref b1), .val (.ref b4), .val (.int ((p0 &&& (2147483647 : Int32)) % (21 : Int32))), .unset, .unset, .unset, .unset, .unset, .unset, .unset, .unset, .unset, .unset, .unset, .unset, .unset, .unset, .unset, .unset]) rfl ?_
    exact Steps.refl _)
  obtain ⟨i, hi, ei⟩ := own_rem31 p0 (m := 21) (by decide) (by decide)
  rw [(show (p0 &&& (2147483647 : Int32)) % (21 : Int32) = Int32.ofNat i from ei)] at c6
  have c7 : Steps p.tables e below S0 (T4.setTop (mkF m 28 #[.val (.int p0), .val (.int p1), .val (.int p2), .val (.int p3), .val (.int p4), .val (.ref b1), .val (.ref b4), .val (.int (Int32.ofNat i)), .val (.int ((p1 &&& (2147483647 : Int32)) % (21 : Int32))), .unset, .unset, .unset, .unset, .unset, .unset, .unset, .unset, .unset, .unset, .unset, .unset, .unset, .unset, .unset] [])) := c6.trans (by
    show Steps p.tables e below (T4.setTop (mkF m 19 #[.val (.int p0), .val (.int p1), .val (.int p2), .val (.int p3), .val (.int p4), .val (.ref b1), .val (.ref b4), .val (.int (Int32.ofNat i)), .unset, .unset, .unset, .unset, .unset, .unset, .unset, .unset, .unset, .unset, .unset, .unset, .unset, .unset, .unset, .unset] [])) _
    refine XS.iloadN X4.here hx rfl (hb hby at_19) rfl ?_
    show Steps p.tables e below (T4.setTop (mkF m 20 #[.val (.int p0), .val (.int p1), .val (.int p2), .val (.int p3), .val (.int p4), .val (.ref b1), .val (.ref b4), .val (.int (Int32.ofNat i)), .unset, .unset, .unset, .unset, .unset, .unset, .unset, .unset, .unset, .unset, .unset, .unset, .unset, .unset, .unset, .unset] [(.int p1)])) _
    refine X4.ldcInt hx hown (mvT hZ (hw _ (List.mem_of_getElem? (i := 69) rfl))) (g := (mkF m 20 #[.val (.int p0), .val (.int p1), .val (.int p2), .val (.int p3), .val (.int p4), .val (.ref b1), .val (.ref b4), .val (.int (Int32.ofNat i)), .unset, .unset, .unset, .unset, .unset, .unset, .unset, .unset, .unset, .unset, .unset, .unset, .unset, .unset, .unset, .unset] [(.int p1)])) rfl (hb hby at_20) _ ?_
    show Steps p.tables e below (T4.setTop (mkF m 22 #[.val (.int p0), .val (.int p1), .val (.int p2), .val (.int p3), .val (.int p4), .val (.ref b1), .val (.ref b4), .val (.int (Int32.ofNat i)), .unset, .unset, .unset, .unset, .unset, .unset, .unset, .unset, .unset, .unset, .unset, .unset, .unset, .unset, .unset, .unset] [(.int (2147483647 : Int32)), (.int p1)])) _
    refine XS.iand X4.here hx rfl (hb hby at_22) rfl ?_
    show Steps p.tables e below (T4.setTop (mkF m 23 #[.val (.int p0), .val (.int p1), .val (.int p2), .val (.int p3), .val (.int p4), .val (.ref b1), .val (.ref b4), .val (.int (Int32.ofNat i)), .unset, .unset, .unset, .unset, .unset, .unset, .unset, .unset, .unset, .unset, .unset, .unset, .unset, .unset, .unset, .unset] [(.int (p1 &&& (2147483647 : Int32)))])) _
    refine XS.bipush X4.here hx rfl (hb hby at_23) ?_
    show Steps p.tables e below (T4.setTop (mkF m 25 #[.val (.int p0), .val (.int p1), .val (.int p2), .val (.int p3), .val (.int p4), .val (.ref b1), .val (.ref b4), .val (.int (Int32.ofNat i)), .unset, .unset, .unset, .unset, .unset, .unset, .unset, .unset, .unset, .unset, .unset, .unset, .unset, .unset, .unset, .unset] [(.int (21 : Int32)), (.int (p1 &&& (2147483647 : Int32)))])) _
    refine iremM (g := (mkF m 25 #[.val (.int p0), .val (.int p1), .val (.int p2), .val (.int p3), .val (.int p4), .val (.ref b1), .val (.ref b4), .val (.int (Int32.ofNat i)), .unset, .unset, .unset, .unset, .unset, .unset, .unset, .unset, .unset, .unset, .unset, .unset, .unset, .unset, .unset, .unset] [(.int (21 : Int32)), (.int (p1 &&& (2147483647 : Int32)))])) X4 hx rfl (hb hby at_25) rfl (by decide) ?_
    show Steps p.tables e below (T4.setTop (mkF m 26 #[.val (.int p0), .val (.int p1), .val (.int p2), .val (.int p3), .val (.int p4), .val (.ref b1), .val (.ref b4), .val (.int (Int32.ofNat i)), .unset, .unset, .unset, .unset, .unset, .unset, .unset, .unset, .unset, .unset, .unset, .unset, .unset, .unset, .unset, .unset] [(.int ((p1 &&& (2147483647 : Int32)) % (21 : Int32)))])) _
    refine XS.istore X4.here hx rfl (hb hby at_26) rfl (l' := #[.val (.int p0), .val (.int p1), .val (.int p2), .val (.int p3), .val (.int p4), .val (.ref b1), .val (.ref b4), .val (.int (Int32.ofNat i)), .val (.int ((p1 &&& (2147483647 : Int32)) % (21 : Int32))), .unset, .unset, .unset, .unset, .unset, .unset, .unset, .unset, .unset, .unset, .unset, .unset, .unset, .unset, .unset]) rfl ?_
    exact Steps.refl _)
  obtain ⟨j, hj, ej⟩ := own_rem31 p1 (m := 21) (by decide) (by decide)
  rw [(show (p1 &&& (2147483647 : Int32)) % (21 : Int32) = Int32.ofNat j from ej)] at c7
  have c8 : Steps p.tables e below S0 (T4.setTop (mkF m 37 #[.val (.int p0), .val (.int p1), .val (.int p2), .val (.int p3), .val (.int p4), .val (.ref b1), .val (.ref b4), .val (.int (Int32.ofNat i)), .val (.int (Int32.ofNat j)), .val (.int ((p2 &&& (2147483647 : Int32)) % (6 : Int32))), .unset, .unset, .unset, .unset, .unset, .unset, .unset, .unset, .unset, .unset, .unset, .unset, .unset, .unset] [])) := c7.trans (by
    show Steps p.tables e below (T4.setTop (mkF m 28 #[.val (.int p0), .val (.int p1), .val (.int p2), .val (.int p3), .val (.int p4), .val (.ref b1), .val (.ref b4), .val (.int (Int32.ofNat i)), .val (.int (Int32.ofNat j)), .unset, .unset, .unset, .unset, .unset, .unset, .unset, .unset, .unset, .unset, .unset, .unset, .unset, .unset, .unset] [])) _
    refine XS.iloadN X4.here hx rfl (hb hby at_28) rfl ?_
    show Steps p.tables e below (T4.setTop (mkF m 29 #[.val (.int p0), .val (.int p1), .val (.int p2), .val (.int p3), .val (.int p4), .val (.ref b1), .val (.ref b4), .val (.int (Int32.ofNat i)), .val (.int (Int32.ofNat j)), .unset, .unset, .unset, .unset, .unset, .unset, .unset, .unset, .unset, .unset, .unset, .unset, .unset, .unset, .unset] [(.int p2)])) _
    refine X4.ldcInt hx hown (mvT hZ (hw _ (List.mem_of_getElem? (i := 69) rfl))) (g := (mkF m 29 #[.val (.int p0), .val (.int p1), .val (.int p2), .val (.int p3), .val (.int p4), .val (.ref b1), .val (.ref b4), .val (.int (Int32.ofNat i)), .val (.int (Int32.ofNat j)), .unset, .unset, .unset, .unset, .unset, .unset, .unset, .unset, .unset, .unset, .unset, .unset, .unset, .unset, .unset] [(.int p2)])) rfl (hb hby at_29) _ ?_
    show Steps p.tables e below (T4.setTop (mkF m 31 #[.val (.int p0), .val (.int p1), .val (.int p2), .val (.int p3), .val (.int p4), .val (.ref b1), .val (.ref b4), .val (.int (Int32.ofNat i)), .val (.int (Int32.ofNat j)), .unset, .unset, .unset, .unset, .unset, .unset, .unset, .unset, .unset, .unset, .unset, .unset, .unset, .unset, .unset] [(.int (2147483647 : Int32)), (.int p2)])) _
    refine XS.iand X4.here hx rfl (hb hby at_31) rfl ?_
    show Steps p.tables e below (T4.setTop (mkF m 32 #[.val (.int p0), .val (.int p1), .val (.int p2), .val (.int p3), .val (.int p4), .val (.ref b1), .val (.ref b4), .val (.int (Int32.ofNat i)), .val (.int (Int32.ofNat j)), .unset, .unset, .unset, .unset, .unset, .unset, .unset, .unset, .unset, .unset, .unset, .unset, .unset, .unset, .unset] [(.int (p2 &&& (2147483647 : Int32)))])) _
    refine XS.bipush X4.here hx rfl (hb hby at_32) ?_
    show Steps p.tables e below (T4.setTop (mkF m 34 #[.val (.int p0), .val (.int p1), .val (.int p2), .val (.int p3), .val (.int p4), .val (.ref b1), .val (.ref b4), .val (.int (Int32.ofNat i)), .val (.int (Int32.ofNat j)), .unset, .unset, .unset, .unset, .unset, .unset, .unset, .unset, .unset, .unset, .unset, .unset, .unset, .unset, .unset] [(.int (6 : Int32)), (.int (p2 &&& (2147483647 : Int32)))])) _
    refine iremM (g := (mkF m 34 #[.val (.int p0), .val (.int p1), .val (.int p2), .val (.int p3), .val (.int p4), .val (.ref b1), .val (.ref b4), .val (.int (Int32.ofNat i)), .val (.int (Int32.ofNat j)), .unset, .unset, .unset, .unset, .unset, .unset, .unset, .unset, .unset, .unset, .unset, .unset, .unset, .unset, .unset] [(.int (6 : Int32)), (.int (p2 &&& (2147483647 : Int32)))])) X4 hx rfl (hb hby at_34) rfl (by decide) ?_
    show Steps p.tables e below (T4.setTop (mkF m 35 #[.val (.int p0), .val (.int p1), .val (.int p2), .val (.int p3), .val (.int p4), .val (.ref b1), .val (.ref b4), .val (.int (Int32.ofNat i)), .val (.int (Int32.ofNat j)), .unset, .unset, .unset, .unset, .unset, .unset, .unset, .unset, .unset, .unset, .unset, .unset, .unset, .unset, .unset] [(.int ((p2 &&& (2147483647 : Int32)) % (6 : Int32)))])) _
    refine XS.istore X4.here hx rfl (hb hby at_35) rfl (l' := #[.val (.int p0), .val (.int p1), .val (.int p2), .val (.int p3), .val (.int p4), .val (.ref b1), .val (.ref b4), .val (.int (Int32.ofNat i)), .val (.int (Int32.ofNat j)), .val (.int ((p2 &&& (2147483647 : Int32)) % (6 : Int32))), .unset, .unset, .unset, .unset, .unset, .unset, .unset, .unset, .unset, .unset, .unset, .unset, .unset, .unset]) rfl ?_
    exact Steps.refl _)
  obtain ⟨k, hk, ek⟩ := own_rem31 p2 (m := 6) (by decide) (by decide)
  rw [(show (p2 &&& (2147483647 : Int32)) % (6 : Int32) = Int32.ofNat k from ek)] at c8
  have c9 : Steps p.tables e below S0 (T4.setTop (mkF m 41 #[.val (.int p0), .val (.int p1), .val (.int p2), .val (.int p3), .val (.int p4), .val (.ref b1), .val (.ref b4), .val (.int (Int32.ofNat i)), .val (.int (Int32.ofNat j)), .val (.int (Int32.ofNat k)), .unset, .unset, .unset, .unset, .unset, .unset, .unset, .unset, .unset, .unset, .unset, .unset, .unset, .unset] [(.int (Int32.ofNat i)), (.ref b1)])) := c8.trans (by
    show Steps p.tables e below (T4.setTop (mkF m 37 #[.val (.int p0), .val (.int p1), .val (.int p2), .val (.int p3), .val (.int p4), .val (.ref b1), .val (.ref b4), .val (.int (Int32.ofNat i)), .val (.int (Int32.ofNat j)), .val (.int (Int32.ofNat k)), .unset, .unset, .unset, .unset, .unset, .unset, .unset, .unset, .unset, .unset, .unset, .unset, .unset, .unset] [])) _
    refine XS.aload X4.here hx rfl (hb hby at_37) rfl rfl ?_
    show Steps p.tables e below (T4.setTop (mkF m 39 #[.val (.int p0), .val (.int p1), .val (.int p2), .val (.int p3), .val (.int p4), .val (.ref b1), .val (.ref b4), .val (.int (Int32.ofNat i)), .val (.int (Int32.ofNat j)), .val (.int (Int32.ofNat k)), .unset, .unset, .unset, .unset, .unset, .unset, .unset, .unset, .unset, .unset, .unset, .unset, .unset, .unset] [(.ref b1)])) _
    refine XS.iload X4.here hx rfl (hb hby at_39) rfl ?_
    exact Steps.refl _)
  obtain ⟨cl10, Ar10, -, S10, -, Ha10, -⟩ := id (Vb1.keep Kq4 nin0)
  have hin10 := inb_of (j := Int32.ofNat i) S10 (own_idx (m := 21) hi (by decide))
  obtain ⟨uu, huu⟩ : ∃ z, z = ([u0, u1, u2, u3, u4, u5, u6, u7, u8, u9, u10, u11, u12, u13, u14, u15, u16, u17, u18, u19, u20] : List Addr).getD i 0 := ⟨_, rfl⟩
  have hat10 : cl10.slots[(Int32.ofNat i).toNatClampNeg]? = some (.ref uu) := by rw [huu]; exact Ha10.at hin10 (own_getref (us := ([u0, u1, u2, u3, u4, u5, u6, u7, u8, u9, u10, u11, u12, u13, u14, u15, u16, u17, u18, u19, u20] : List Addr)) hi (by omega))
  have xuu : Exa Z Z.heap uu "com/example/cabin_audio_policy/cabinaudiopolicy/AudioUsage" := huu ▸ hUx i hi
  have c11 : Steps p.tables e below S0 (T4.setTop (mkF m 48 #[.val (.int p0), .val (.int p1), .val (.int p2), .val (.int p3), .val (.int p4), .val (.ref b1), .val (.ref b4), .val (.int (Int32.ofNat i)), .val (.int (Int32.ofNat j)), .val (.int (Int32.ofNat k)), .val (.ref uu), .unset, .unset, .unset, .unset, .unset, .unset, .unset, .unset, .unset, .unset, .unset, .unset, .unset] [(.int (Int32.ofNat j)), (.ref b1)])) := c9.trans (by
    show Steps p.tables e below (T4.setTop (mkF m 41 #[.val (.int p0), .val (.int p1), .val (.int p2), .val (.int p3), .val (.int p4), .val (.ref b1), .val (.ref b4), .val (.int (Int32.ofNat i)), .val (.int (Int32.ofNat j)), .val (.int (Int32.ofNat k)), .unset, .unset, .unset, .unset, .unset, .unset, .unset, .unset, .unset, .unset, .unset, .unset, .unset, .unset] [(.int (Int32.ofNat i)), (.ref b1)])) _
    refine X4.aaload hx (j := (Int32.ofNat i)) (v := (.ref uu)) Ar10.1 (State.isArrayOf_alike hZ.alike Ar10.2.1) rfl Ar10.2.2 hin10 hat10 (g := (mkF m 41 #[.val (.int p0), .val (.int p1), .val (.int p2), .val (.int p3), .val (.int p4), .val (.ref b1), .val (.ref b4), .val (.int (Int32.ofNat i)), .val (.int (Int32.ofNat j)), .val (.int (Int32.ofNat k)), .unset, .unset, .unset, .unset, .unset, .unset, .unset, .unset, .unset, .unset, .unset, .unset, .unset, .unset] [(.int (Int32.ofNat i)), (.ref b1)])) rfl rfl (hb hby at_41) _ ?_
    show Steps p.tables e below (T4.setTop (mkF m 42 #[.val (.int p0), .val (.int p1), .val (.int p2), .val (.int p3), .val (.int p4), .val (.ref b1), .val (.ref b4), .val (.int (Int32.ofNat i)), .val (.int (Int32.ofNat j)), .val (.int (Int32.ofNat k)), .unset, .unset, .unset, .unset, .unset, .unset, .unset, .unset, .unset, .unset, .unset, .unset, .unset, .unset] [(.ref uu)])) _
    refine XS.astore X4.here hx rfl (hb hby at_42) rfl rfl (l' := #[.val (.int p0), .val (.int p1), .val (.int p2), .val (.int p3), .val (.int p4), .val (.ref b1), .val (.ref b4), .val (.int (Int32.ofNat i)), .val (.int (Int32.ofNat j)), .val (.int (Int32.ofNat k)), .val (.ref uu), .unset, .unset, .unset, .unset, .unset, .unset, .unset, .unset, .unset, .unset, .unset, .unset, .unset]) rfl ?_
    show Steps p.tables e below (T4.setTop (mkF m 44 #[.val (.int p0), .val (.int p1), .val (.int p2), .val (.int p3), .val (.int p4), .val (.ref b1), .val (.ref b4), .val (.int (Int32.ofNat i)), .val (.int (Int32.ofNat j)), .val (.int (Int32.ofNat k)), .val (.ref uu), .unset, .unset, .unset, .unset, .unset, .unset, .unset, .unset, .unset, .unset, .unset, .unset, .unset] [])) _
    refine XS.aload X4.here hx rfl (hb hby at_44) rfl rfl ?_
    show Steps p.tables e below (T4.setTop (mkF m 46 #[.val (.int p0), .val (.int p1), .val (.int p2), .val (.int p3), .val (.int p4), .val (.ref b1), .val (.ref b4), .val (.int (Int32.ofNat i)), .val (.int (Int32.ofNat j)), .val (.int (Int32.ofNat k)), .val (.ref uu), .unset, .unset, .unset, .unset, .unset, .unset, .unset, .unset, .unset, .unset, .unset, .unset, .unset] [(.ref b1)])) _
    refine XS.iload X4.here hx rfl (hb hby at_46) rfl ?_
    exact Steps.refl _)
  obtain ⟨cl12, Ar12, -, S12, -, Ha12, -⟩ := id (Vb1.keep Kq4 nin0)
  have hin12 := inb_of (j := Int32.ofNat j) S12 (own_idx (m := 21) hj (by decide))
  obtain ⟨uv, huv⟩ : ∃ z, z = ([u0, u1, u2, u3, u4, u5, u6, u7, u8, u9, u10, u11, u12, u13, u14, u15, u16, u17, u18, u19, u20] : List Addr).getD j 0 := ⟨_, rfl⟩
  have hat12 : cl12.slots[(Int32.ofNat j).toNatClampNeg]? = some (.ref uv) := by rw [huv]; exact Ha12.at hin12 (own_getref (us := ([u0, u1, u2, u3, u4, u5, u6, u7, u8, u9, u10, u11, u12, u13, u14, u15, u16, u17, u18, u19, u20] : List Addr)) hj (by omega))
  have xuv : Exa Z Z.heap uv "com/example/cabin_audio_policy/cabinaudiopolicy/AudioUsage" := huv ▸ hUx j hj
  have c13 : Steps p.tables e below S0 (T4.setTop (mkF m 55 #[.val (.int p0), .val (.int p1), .val (.int p2), .val (.int p3), .val (.int p4), .val (.ref b1), .val (.ref b4), .val (.int (Int32.ofNat i)), .val (.int (Int32.ofNat j)), .val (.int (Int32.ofNat k)), .val (.ref uu), .val (.ref uv), .unset, .unset, .unset, .unset, .unset, .unset, .unset, .unset, .unset, .unset, .unset, .unset] [(.int (Int32.ofNat k)), (.ref b4)])) := c11.trans (by
    show Steps p.tables e below (T4.setTop (mkF m 48 #[.val (.int p0), .val (.int p1), .val (.int p2), .val (.int p3), .val (.int p4), .val (.ref b1), .val (.ref b4), .val (.int (Int32.ofNat i)), .val (.int (Int32.ofNat j)), .val (.int (Int32.ofNat k)), .val (.ref uu), .unset, .unset, .unset, .unset, .unset, .unset, .unset, .unset, .unset, .unset, .unset, .unset, .unset] [(.int (Int32.ofNat j)), (.ref b1)])) _
    refine X4.aaload hx (j := (Int32.ofNat j)) (v := (.ref uv)) Ar12.1 (State.isArrayOf_alike hZ.alike Ar12.2.1) rfl Ar12.2.2 hin12 hat12 (g := (mkF m 48 #[.val (.int p0), .val (.int p1), .val (.int p2), .val (.int p3), .val (.int p4), .val (.ref b1), .val (.ref b4), .val (.int (Int32.ofNat i)), .val (.int (Int32.ofNat j)), .val (.int (Int32.ofNat k)), .val (.ref uu), .unset, .unset, .unset, .unset, .unset, .unset, .unset, .unset, .unset, .unset, .unset, .unset, .unset] [(.int (Int32.ofNat j)), (.ref b1)])) rfl rfl (hb hby at_48) _ ?_
    show Steps p.tables e below (T4.setTop (mkF m 49 #[.val (.int p0), .val (.int p1), .val (.int p2), .val (.int p3), .val (.int p4), .val (.ref b1), .val (.ref b4), .val (.int (Int32.ofNat i)), .val (.int (Int32.ofNat j)), .val (.int (Int32.ofNat k)), .val (.ref uu), .unset, .unset, .unset, .unset, .unset, .unset, .unset, .unset, .unset, .unset, .unset, .unset, .unset] [(.ref uv)])) _
    refine XS.astore X4.here hx rfl (hb hby at_49) rfl rfl (l' := #[.val (.int p0), .val (.int p1), .val (.int p2), .val (.int p3), .val (.int p4), .val (.ref b1), .val (.ref b4), .val (.int (Int32.ofNat i)), .val (.int (Int32.ofNat j)), .val (.int (Int32.ofNat k)), .val (.ref uu), .val (.ref uv), .unset, .unset, .unset, .unset, .unset, .unset, .unset, .unset, .unset, .unset, .unset, .unset]) rfl ?_
    show Steps p.tables e below (T4.setTop (mkF m 51 #[.val (.int p0), .val (.int p1), .val (.int p2), .val (.int p3), .val (.int p4), .val (.ref b1), .val (.ref b4), .val (.int (Int32.ofNat i)), .val (.int (Int32.ofNat j)), .val (.int (Int32.ofNat k)), .val (.ref uu), .val (.ref uv), .unset, .unset, .unset, .unset, .unset, .unset, .unset, .unset, .unset, .unset, .unset, .unset] [])) _
    refine XS.aload X4.here hx rfl (hb hby at_51) rfl rfl ?_
    show Steps p.tables e below (T4.setTop (mkF m 53 #[.val (.int p0), .val (.int p1), .val (.int p2), .val (.int p3), .val (.int p4), .val (.ref b1), .val (.ref b4), .val (.int (Int32.ofNat i)), .val (.int (Int32.ofNat j)), .val (.int (Int32.ofNat k)), .val (.ref uu), .val (.ref uv), .unset, .unset, .unset, .unset, .unset, .unset, .unset, .unset, .unset, .unset, .unset, .unset] [(.ref b4)])) _
    refine XS.iload X4.here hx rfl (hb hby at_53) rfl ?_
    exact Steps.refl _)
  obtain ⟨cl14, Ar14, -, S14, -, Ha14, -⟩ := id Vb4
  have hin14 := inb_of (j := Int32.ofNat k) S14 (own_idx (m := 6) hk (by decide))
  obtain ⟨uc, huc⟩ : ∃ z, z = ([ct0, ct1, ct2, ct3, ct4, ct5] : List Addr).getD k 0 := ⟨_, rfl⟩
  have hat14 : cl14.slots[(Int32.ofNat k).toNatClampNeg]? = some (.ref uc) := by rw [huc]; exact Ha14.at hin14 (own_getref (us := ([ct0, ct1, ct2, ct3, ct4, ct5] : List Addr)) hk (by omega))
  have xuc : Exa Z Z.heap uc "com/example/cabin_audio_policy/cabinaudiopolicy/AudioContentType" := huc ▸ hCx k hk
  have c15 : Steps p.tables e below S0 (T4.setTop (mkF m 59 #[.val (.int p0), .val (.int p1), .val (.int p2), .val (.int p3), .val (.int p4), .val (.ref b1), .val (.ref b4), .val (.int (Int32.ofNat i)), .val (.int (Int32.ofNat j)), .val (.int (Int32.ofNat k)), .val (.ref uu), .val (.ref uv), .val (.ref uc), .unset, .unset, .unset, .unset, .unset, .unset, .unset, .unset, .unset, .unset, .unset] [(.int (2 : Int32))])) := c13.trans (by
    show Steps p.tables e below (T4.setTop (mkF m 55 #[.val (.int p0), .val (.int p1), .val (.int p2), .val (.int p3), .val (.int p4), .val (.ref b1), .val (.ref b4), .val (.int (Int32.ofNat i)), .val (.int (Int32.ofNat j)), .val (.int (Int32.ofNat k)), .val (.ref uu), .val (.ref uv), .unset, .unset, .unset, .unset, .unset, .unset, .unset, .unset, .unset, .unset, .unset, .unset] [(.int (Int32.ofNat k)), (.ref b4)])) _
    refine X4.aaload hx (j := (Int32.ofNat k)) (v := (.ref uc)) Ar14.1 (State.isArrayOf_alike hZ.alike Ar14.2.1) rfl Ar14.2.2 hin14 hat14 (g := (mkF m 55 #[.val (.int p0), .val (.int p1), .val (.int p2), .val (.int p3), .val (.int p4), .val (.ref b1), .val (.ref b4), .val (.int (Int32.ofNat i)), .val (.int (Int32.ofNat j)), .val (.int (Int32.ofNat k)), .val (.ref uu), .val (.ref uv), .unset, .unset, .unset, .unset, .unset, .unset, .unset, .unset, .unset, .unset, .unset, .unset] [(.int (Int32.ofNat k)), (.ref b4)])) rfl rfl (hb hby at_55) _ ?_
    show Steps p.tables e below (T4.setTop (mkF m 56 #[.val (.int p0), .val (.int p1), .val (.int p2), .val (.int p3), .val (.int p4), .val (.ref b1), .val (.ref b4), .val (.int (Int32.ofNat i)), .val (.int (Int32.ofNat j)), .val (.int (Int32.ofNat k)), .val (.ref uu), .val (.ref uv), .unset, .unset, .unset, .unset, .unset, .unset, .unset, .unset, .unset, .unset, .unset, .unset] [(.ref uc)])) _
    refine XS.astore X4.here hx rfl (hb hby at_56) rfl rfl (l' := #[.val (.int p0), .val (.int p1), .val (.int p2), .val (.int p3), .val (.int p4), .val (.ref b1), .val (.ref b4), .val (.int (Int32.ofNat i)), .val (.int (Int32.ofNat j)), .val (.int (Int32.ofNat k)), .val (.ref uu), .val (.ref uv), .val (.ref uc), .unset, .unset, .unset, .unset, .unset, .unset, .unset, .unset, .unset, .unset, .unset]) rfl ?_
    show Steps p.tables e below (T4.setTop (mkF m 58 #[.val (.int p0), .val (.int p1), .val (.int p2), .val (.int p3), .val (.int p4), .val (.ref b1), .val (.ref b4), .val (.int (Int32.ofNat i)), .val (.int (Int32.ofNat j)), .val (.int (Int32.ofNat k)), .val (.ref uu), .val (.ref uv), .val (.ref uc), .unset, .unset, .unset, .unset, .unset, .unset, .unset, .unset, .unset, .unset, .unset] [])) _
    refine XS.iconst X4.here hx rfl (hb hby at_58) ?_
    exact Steps.refl _)
  obtain ⟨T16, h16, k16, X16, e16, E16, A16, st16⟩ := newP X4 hx hZ (hw _ (List.mem_of_getElem? (i := 70) rfl)) rfl (g := (mkF m 59 #[.val (.int p0), .val (.int p1), .val (.int p2), .val (.int p3), .val (.int p4), .val (.ref b1), .val (.ref b4), .val (.int (Int32.ofNat i)), .val (.int (Int32.ofNat j)), .val (.int (Int32.ofNat k)), .val (.ref uu), .val (.ref uv), .val (.ref uc), .unset, .unset, .unset, .unset, .unset, .unset, .unset, .unset, .unset, .unset, .unset] [(.int (2 : Int32))])) rfl (hb hby at_59) rfl (by decide) (cap := 2) (by decide) (by decide) (by decide) (by decide)
  obtain ⟨b16, g16⟩ : ∃ z, z = T4.heap.size := ⟨_, rfl⟩
  rw [← g16] at A16 st16
  have c17 : Steps p.tables e below S0 (T16.setTop (mkF m 61 #[.val (.int p0), .val (.int p1), .val (.int p2), .val (.int p3), .val (.int p4), .val (.ref b1), .val (.ref b4), .val (.int (Int32.ofNat i)), .val (.int (Int32.ofNat j)), .val (.int (Int32.ofNat k)), .val (.ref uu), .val (.ref uv), .val (.ref uc), .unset, .unset, .unset, .unset, .unset, .unset, .unset, .unset, .unset, .unset, .unset] [(.ref b16)])) := c15.trans (st16 _ (Steps.refl _))
  have z16 : n0 ≤ h16.size := Nat.le_trans z4 E16.1
  have K16 := K4.ext E16
  have V16 : Arv Z h16 b16 k16 .char (2 : Int32) [(.int (0 : Int32)), (.int (0 : Int32))] (.int (0 : Int32)) := (Arv.new A16 (by decide)).pad (pad_rep [] (.int (0 : Int32)) 2)
  have lt_b16 : b16 < h16.size := V16.lt
  have c18 : Steps p.tables e below S0 (T16.setTop (mkF m 69 #[.val (.int p0), .val (.int p1), .val (.int p2), .val (.int p3), .val (.int p4), .val (.ref b1), .val (.ref b4), .val (.int (Int32.ofNat i)), .val (.int (Int32.ofNat j)), .val (.int (Int32.ofNat k)), .val (.ref uu), .val (.ref uv), .val (.ref uc), .unset, .unset, .unset, .unset, .unset, .unset, .unset, .unset, .unset, .unset, .unset] [(.int ((p3 &&& (255 : Int32)).toUInt32.toUInt16.toUInt32.toInt32)), (.int (0 : Int32)), (.ref b16), (.ref b16)])) := c17.trans (by
    show Steps p.tables e below (T16.setTop (mkF m 61 #[.val (.int p0), .val (.int p1), .val (.int p2), .val (.int p3), .val (.int p4), .val (.ref b1), .val (.ref b4), .val (.int (Int32.ofNat i)), .val (.int (Int32.ofNat j)), .val (.int (Int32.ofNat k)), .val (.ref uu), .val (.ref uv), .val (.ref uc), .unset, .unset, .unset, .unset, .unset, .unset, .unset, .unset, .unset, .unset, .unset] [(.ref b16)])) _
    refine XS.dup X16.here hx rfl (hb hby at_61) rfl rfl ?_
    show Steps p.tables e below (T16.setTop (mkF m 62 #[.val (.int p0), .val (.int p1), .val (.int p2), .val (.int p3), .val (.int p4), .val (.ref b1), .val (.ref b4), .val (.int (Int32.ofNat i)), .val (.int (Int32.ofNat j)), .val (.int (Int32.ofNat k)), .val (.ref uu), .val (.ref uv), .val (.ref uc), .unset, .unset, .unset, .unset, .unset, .unset, .unset, .unset, .unset, .unset, .unset] [(.ref b16), (.ref b16)])) _
    refine XS.iconst X16.here hx rfl (hb hby at_62) ?_
    show Steps p.tables e below (T16.setTop (mkF m 63 #[.val (.int p0), .val (.int p1), .val (.int p2), .val (.int p3), .val (.int p4), .val (.ref b1), .val (.ref b4), .val (.int (Int32.ofNat i)), .val (.int (Int32.ofNat j)), .val (.int (Int32.ofNat k)), .val (.ref uu), .val (.ref uv), .val (.ref uc), .unset, .unset, .unset, .unset, .unset, .unset, .unset, .unset, .unset, .unset, .unset] [(.int (0 : Int32)), (.ref b16), (.ref b16)])) _
    refine XS.iloadN X16.here hx rfl (hb hby at_63) rfl ?_
    show Steps p.tables e below (T16.setTop (mkF m 64 #[.val (.int p0), .val (.int p1), .val (.int p2), .val (.int p3), .val (.int p4), .val (.ref b1), .val (.ref b4), .val (.int (Int32.ofNat i)), .val (.int (Int32.ofNat j)), .val (.int (Int32.ofNat k)), .val (.ref uu), .val (.ref uv), .val (.ref uc), .unset, .unset, .unset, .unset, .unset, .unset, .unset, .unset, .unset, .unset, .unset] [(.int p3), (.int (0 : Int32)), (.ref b16), (.ref b16)])) _
    refine XS.sipush X16.here hx rfl (hb hby at_64) ?_
    show Steps p.tables e below (T16.setTop (mkF m 67 #[.val (.int p0), .val (.int p1), .val (.int p2), .val (.int p3), .val (.int p4), .val (.ref b1), .val (.ref b4), .val (.int (Int32.ofNat i)), .val (.int (Int32.ofNat j)), .val (.int (Int32.ofNat k)), .val (.ref uu), .val (.ref uv), .val (.ref uc), .unset, .unset, .unset, .unset, .unset, .unset, .unset, .unset, .unset, .unset, .unset] [(.int (255 : Int32)), (.int p3), (.int (0 : Int32)), (.ref b16), (.ref b16)])) _
    refine XS.iand X16.here hx rfl (hb hby at_67) rfl ?_
    show Steps p.tables e below (T16.setTop (mkF m 68 #[.val (.int p0), .val (.int p1), .val (.int p2), .val (.int p3), .val (.int p4), .val (.ref b1), .val (.ref b4), .val (.int (Int32.ofNat i)), .val (.int (Int32.ofNat j)), .val (.int (Int32.ofNat k)), .val (.ref uu), .val (.ref uv), .val (.ref uc), .unset, .unset, .unset, .unset, .unset, .unset, .unset, .unset, .unset, .unset, .unset] [(.int (p3 &&& (255 : Int32))), (.int (0 : Int32)), (.ref b16), (.ref b16)])) _
    refine XS.i2c X16.here hx rfl (hb hby at_68) rfl ?_
    exact Steps.refl _)
  obtain ⟨cl19, Ar19, q19, S19, Nn19, Ha19, G19⟩ := id V16
  obtain ⟨T19, h19, X19, e19, W19, st19⟩ := stC X16 hx hZ e16 Ar19 (j := (0 : Int32)) (inb_of S19 ⟨by decide, by decide⟩) (g := (mkF m 69 #[.val (.int p0), .val (.int p1), .val (.int p2), .val (.int p3), .val (.int p4), .val (.ref b1), .val (.ref b4), .val (.int (Int32.ofNat i)), .val (.int (Int32.ofNat j)), .val (.int (Int32.ofNat k)), .val (.ref uu), .val (.ref uv), .val (.ref uc), .unset, .unset, .unset, .unset, .unset, .unset, .unset, .unset, .unset, .unset, .unset] [(.int ((p3 &&& (255 : Int32)).toUInt32.toUInt16.toUInt32.toInt32)), (.int (0 : Int32)), (.ref b16), (.ref b16)])) rfl rfl (hb hby at_69)
  have V19 : Arv Z h19 b16 k16 .char (2 : Int32) [(.int (nar .char ((p3 &&& (255 : Int32)).toUInt32.toUInt16.toUInt32.toInt32))), (.int (0 : Int32))] (.int (0 : Int32)) := Arv.set Ar19 q19 S19 Nn19 Ha19 G19 (fits_nar_char _) W19 0 rfl (Nat.le_of_ble_eq_true rfl)
  have c20 : Steps p.tables e below S0 (T19.setTop (mkF m 70 #[.val (.int p0), .val (.int p1), .val (.int p2), .val (.int p3), .val (.int p4), .val (.ref b1), .val (.ref b4), .val (.int (Int32.ofNat i)), .val (.int (Int32.ofNat j)), .val (.int (Int32.ofNat k)), .val (.ref uu), .val (.ref uv), .val (.ref uc), .unset, .unset, .unset, .unset, .unset, .unset, .unset, .unset, .unset, .unset, .unset] [(.ref b16)])) := c18.trans (st19 _ (Steps.refl _))
  have N19 := Fr.snoc X19 N4 (Nat.le_trans Z0 (Nat.le_trans K4.1 (Nat.le_of_eq g16.symm)))
  have z19 : n0 ≤ h19.size := Nat.le_trans z16 (Keep.of_wr W19).1
  have K19 := K16.wr W19 (Or.inr (Nat.le_trans K4.1 (Nat.le_of_eq g16.symm)))
  have c21 : Steps p.tables e below S0 (T19.setTop (mkF m 81 #[.val (.int p0), .val (.int p1), .val (.int p2), .val (.int p3), .val (.int p4), .val (.ref b1), .val (.ref b4), .val (.int (Int32.ofNat i)), .val (.int (Int32.ofNat j)), .val (.int (Int32.ofNat k)), .val (.ref uu), .val (.ref uv), .val (.ref uc), .unset, .unset, .unset, .unset, .unset, .unset, .unset, .unset, .unset, .unset, .unset] [(.int ((((p3.toUInt32 >>> ((8 : Int32) &&& 31).toUInt32).toInt32) &&& (255 : Int32)).toUInt32.toUInt16.toUInt32.toInt32)), (.int (1 : Int32)), (.ref b16), (.ref b16)])) := c20.trans (by
    show Steps p.tables e below (T19.setTop (mkF m 70 #[.val (.int p0), .val (.int p1), .val (.int p2), .val (.int p3), .val (.int p4), .val (.ref b1), .val (.ref b4), .val (.int (Int32.ofNat i)), .val (.int (Int32.ofNat j)), .val (.int (Int32.ofNat k)), .val (.ref uu), .val (.ref uv), .val (.ref uc), .unset, .unset, .unset, .unset, .unset, .unset, .unset, .unset, .unset, .unset, .unset] [(.ref b16)])) _
    refine XS.dup X19.here hx rfl (hb hby at_70) rfl rfl ?_
    show Steps p.tables e below (T19.setTop (mkF m 71 #[.val (.int p0), .val (.int p1), .val (.int p2), .val (.int p3), .val (.int p4), .val (.ref b1), .val (.ref b4), .val (.int (Int32.ofNat i)), .val (.int (Int32.ofNat j)), .val (.int (Int32.ofNat k)), .val (.ref uu), .val (.ref uv), .val (.ref uc), .unset, .unset, .unset, .unset, .unset, .unset, .unset, .unset, .unset, .unset, .unset] [(.ref b16), (.ref b16)])) _
    refine XS.iconst X19.here hx rfl (hb hby at_71) ?_
    show Steps p.tables e below (T19.setTop (mkF m 72 #[.val (.int p0), .val (.int p1), .val (.int p2), .val (.int p3), .val (.int p4), .val (.ref b1), .val (.ref b4), .val (.int (Int32.ofNat i)), .val (.int (Int32.ofNat j)), .val (.int (Int32.ofNat k)), .val (.ref uu), .val (.ref uv), .val (.ref uc), .unset, .unset, .unset, .unset, .unset, .unset, .unset, .unset, .unset, .unset, .unset] [(.int (1 : Int32)), (.ref b16), (.ref b16)])) _
    refine XS.iloadN X19.here hx rfl (hb hby at_72) rfl ?_
    show Steps p.tables e below (T19.setTop (mkF m 73 #[.val (.int p0), .val (.int p1), .val (.int p2), .val (.int p3), .val (.int p4), .val (.ref b1), .val (.ref b4), .val (.int (Int32.ofNat i)), .val (.int (Int32.ofNat j)), .val (.int (Int32.ofNat k)), .val (.ref uu), .val (.ref uv), .val (.ref uc), .unset, .unset, .unset, .unset, .unset, .unset, .unset, .unset, .unset, .unset, .unset] [(.int p3), (.int (1 : Int32)), (.ref b16), (.ref b16)])) _
    refine XS.bipush X19.here hx rfl (hb hby at_73) ?_
    show Steps p.tables e below (T19.setTop (mkF m 75 #[.val (.int p0), .val (.int p1), .val (.int p2), .val (.int p3), .val (.int p4), .val (.ref b1), .val (.ref b4), .val (.int (Int32.ofNat i)), .val (.int (Int32.ofNat j)), .val (.int (Int32.ofNat k)), .val (.ref uu), .val (.ref uv), .val (.ref uc), .unset, .unset, .unset, .unset, .unset, .unset, .unset, .unset, .unset, .unset, .unset] [(.int (8 : Int32)), (.int p3), (.int (1 : Int32)), (.ref b16), (.ref b16)])) _
    refine XS.iushr X19.here hx rfl (hb hby at_75) rfl ?_
    show Steps p.tables e below (T19.setTop (mkF m 76 #[.val (.int p0), .val (.int p1), .val (.int p2), .val (.int p3), .val (.int p4), .val (.ref b1), .val (.ref b4), .val (.int (Int32.ofNat i)), .val (.int (Int32.ofNat j)), .val (.int (Int32.ofNat k)), .val (.ref uu), .val (.ref uv), .val (.ref uc), .unset, .unset, .unset, .unset, .unset, .unset, .unset, .unset, .unset, .unset, .unset] [(.int ((p3.toUInt32 >>> ((8 : Int32) &&& 31).toUInt32).toInt32)), (.int (1 : Int32)), (.ref b16), (.ref b16)])) _
    refine XS.sipush X19.here hx rfl (hb hby at_76) ?_
    show Steps p.tables e below (T19.setTop (mkF m 79 #[.val (.int p0), .val (.int p1), .val (.int p2), .val (.int p3), .val (.int p4), .val (.ref b1), .val (.ref b4), .val (.int (Int32.ofNat i)), .val (.int (Int32.ofNat j)), .val (.int (Int32.ofNat k)), .val (.ref uu), .val (.ref uv), .val (.ref uc), .unset, .unset, .unset, .unset, .unset, .unset, .unset, .unset, .unset, .unset, .unset] [(.int (255 : Int32)), (.int ((p3.toUInt32 >>> ((8 : Int32) &&& 31).toUInt32).toInt32)), (.int (1 : Int32)), (.ref b16), (.ref b16)])) _
    refine XS.iand X19.here hx rfl (hb hby at_79) rfl ?_
    show Steps p.tables e below (T19.setTop (mkF m 80 #[.val (.int p0), .val (.int p1), .val (.int p2), .val (.int p3), .val (.int p4), .val (.ref b1), .val (.ref b4), .val (.int (Int32.ofNat i)), .val (.int (Int32.ofNat j)), .val (.int (Int32.ofNat k)), .val (.ref uu), .val (.ref uv), .val (.ref uc), .unset, .unset, .unset, .unset, .unset, .unset, .unset, .unset, .unset, .unset, .unset] [(.int (((p3.toUInt32 >>> ((8 : Int32) &&& 31).toUInt32).toInt32) &&& (255 : Int32))), (.int (1 : Int32)), (.ref b16), (.ref b16)])) _
    refine XS.i2c X19.here hx rfl (hb hby at_80) rfl ?_
    exact Steps.refl _)
  obtain ⟨cl22, Ar22, q22, S22, Nn22, Ha22, G22⟩ := id V19
  obtain ⟨T22, h22, X22, e22, W22, st22⟩ := stC X19 hx hZ e19 Ar22 (j := (1 : Int32)) (inb_of S22 ⟨by decide, by decide⟩) (g := (mkF m 81 #[.val (.int p0), .val (.int p1), .val (.int p2), .val (.int p3), .val (.int p4), .val (.ref b1), .val (.ref b4), .val (.int (Int32.ofNat i)), .val (.int (Int32.ofNat j)), .val (.int (Int32.ofNat k)), .val (.ref uu), .val (.ref uv), .val (.ref uc), .unset, .unset, .unset, .unset, .unset, .unset, .unset, .unset, .unset, .unset, .unset] [(.int ((((p3.toUInt32 >>> ((8 : Int32) &&& 31).toUInt32).toInt32) &&& (255 : Int32)).toUInt32.toUInt16.toUInt32.toInt32)), (.int (1 : Int32)), (.ref b16), (.ref b16)])) rfl rfl (hb hby at_81)
  have V22 : Arv Z h22 b16 k16 .char (2 : Int32) [(.int (nar .char ((p3 &&& (255 : Int32)).toUInt32.toUInt16.toUInt32.toInt32))), (.int (nar .char ((((p3.toUInt32 >>> ((8 : Int32) &&& 31).toUInt32).toInt32) &&& (255 : Int32)).toUInt32.toUInt16.toUInt32.toInt32)))] (.int (0 : Int32)) := Arv.set Ar22 q22 S22 Nn22 Ha22 G22 (fits_nar_char _) W22 1 rfl (Nat.le_of_ble_eq_true rfl)
  have c23 : Steps p.tables e below S0 (T22.setTop (mkF m 82 #[.val (.int p0), .val (.int p1), .val (.int p2), .val (.int p3), .val (.int p4), .val (.ref b1), .val (.ref b4), .val (.int (Int32.ofNat i)), .val (.int (Int32.ofNat j)), .val (.int (Int32.ofNat k)), .val (.ref uu), .val (.ref uv), .val (.ref uc), .unset, .unset, .unset, .unset, .unset, .unset, .unset, .unset, .unset, .unset, .unset] [(.ref b16)])) := c21.trans (st22 _ (Steps.refl _))
  have N22 := Fr.snoc X22 N19 (Nat.le_trans Z0 (Nat.le_trans K4.1 (Nat.le_of_eq g16.symm)))
  have z22 : n0 ≤ h22.size := Nat.le_trans z19 (Keep.of_wr W22).1
  have K22 := K19.wr W22 (Or.inr (Nat.le_trans K4.1 (Nat.le_of_eq g16.symm)))
  have c24 : Steps p.tables e below S0 (T22.setTop (mkF m 88 #[.val (.int p0), .val (.int p1), .val (.int p2), .val (.int p3), .val (.int p4), .val (.ref b1), .val (.ref b4), .val (.int (Int32.ofNat i)), .val (.int (Int32.ofNat j)), .val (.int (Int32.ofNat k)), .val (.ref uu), .val (.ref uv), .val (.ref uc), .val (.ref b16), .unset, .unset, .unset, .unset, .unset, .unset, .unset, .unset, .unset, .unset] [(.int (p4 &&& (1 : Int32)))])) := c23.trans (by
    show Steps p.tables e below (T22.setTop (mkF m 82 #[.val (.int p0), .val (.int p1), .val (.int p2), .val (.int p3), .val (.int p4), .val (.ref b1), .val (.ref b4), .val (.int (Int32.ofNat i)), .val (.int (Int32.ofNat j)), .val (.int (Int32.ofNat k)), .val (.ref uu), .val (.ref uv), .val (.ref uc), .unset, .unset, .unset, .unset, .unset, .unset, .unset, .unset, .unset, .unset, .unset] [(.ref b16)])) _
    refine XS.astore X22.here hx rfl (hb hby at_82) rfl rfl (l' := #[.val (.int p0), .val (.int p1), .val (.int p2), .val (.int p3), .val (.int p4), .val (.ref b1), .val (.ref b4), .val (.int (Int32.ofNat i)), .val (.int (Int32.ofNat j)), .val (.int (Int32.ofNat k)), .val (.ref uu), .val (.ref uv), .val (.ref uc), .val (.ref b16), .unset, .unset, .unset, .unset, .unset, .unset, .unset, .unset, .unset, .unset]) rfl ?_
    show Steps p.tables e below (T22.setTop (mkF m 84 #[.val (.int p0), .val (.int p1), .val (.int p2), .val (.int p3), .val (.int p4), .val (.ref b1), .val (.ref b4), .val (.int (Int32.ofNat i)), .val (.int (Int32.ofNat j)), .val (.int (Int32.ofNat k)), .val (.ref uu), .val (.ref uv), .val (.ref uc), .val (.ref b16), .unset, .unset, .unset, .unset, .unset, .unset, .unset, .unset, .unset, .unset] [])) _
    refine XS.iload X22.here hx rfl (hb hby at_84) rfl ?_
    show Steps p.tables e below (T22.setTop (mkF m 86 #[.val (.int p0), .val (.int p1), .val (.int p2), .val (.int p3), .val (.int p4), .val (.ref b1), .val (.ref b4), .val (.int (Int32.ofNat i)), .val (.int (Int32.ofNat j)), .val (.int (Int32.ofNat k)), .val (.ref uu), .val (.ref uv), .val (.ref uc), .val (.ref b16), .unset, .unset, .unset, .unset, .unset, .unset, .unset, .unset, .unset, .unset] [(.int p4)])) _
    refine XS.iconst X22.here hx rfl (hb hby at_86) ?_
    show Steps p.tables e below (T22.setTop (mkF m 87 #[.val (.int p0), .val (.int p1), .val (.int p2), .val (.int p3), .val (.int p4), .val (.ref b1), .val (.ref b4), .val (.int (Int32.ofNat i)), .val (.int (Int32.ofNat j)), .val (.int (Int32.ofNat k)), .val (.ref uu), .val (.ref uv), .val (.ref uc), .val (.ref b16), .unset, .unset, .unset, .unset, .unset, .unset, .unset, .unset, .unset, .unset] [(.int (1 : Int32)), (.int p4)])) _
    refine XS.iand X22.here hx rfl (hb hby at_87) rfl ?_
    exact Steps.refl _)
  by_cases hq25 : (p4 &&& (1 : Int32)) = (0 : Int32)
  · have c26 : Steps p.tables e below S0 (T22.setTop (mkF m 106 #[.val (.int p0), .val (.int p1), .val (.int p2), .val (.int p3), .val (.int p4), .val (.ref b1), .val (.ref b4), .val (.int (Int32.ofNat i)), .val (.int (Int32.ofNat j)), .val (.int (Int32.ofNat k)), .val (.ref uu), .val (.ref uv), .val (.ref uc), .val (.ref b16), .unset, .unset, .unset, .unset, .unset, .unset, .unset, .unset, .unset, .unset] [(.int (0 : Int32)), (.ref b16)])) := c24.trans (by
      show Steps p.tables e below (T22.setTop (mkF m 88 #[.val (.int p0), .val (.int p1), .val (.int p2), .val (.int p3), .val (.int p4), .val (.ref b1), .val (.ref b4), .val (.int (Int32.ofNat i)), .val (.int (Int32.ofNat j)), .val (.int (Int32.ofNat k)), .val (.ref uu), .val (.ref uv), .val (.ref uc), .val (.ref b16), .unset, .unset, .unset, .unset, .unset, .unset, .unset, .unset, .unset, .unset] [(.int (p4 &&& (1 : Int32)))])) _
      refine XS.ifYes X22.here hx rfl (pc0 := 88) (pc' := 103) rfl (hb hby at_88) rfl ((if0 _ _).trans (teq hq25).1) (by decide) (by decide) ?_
      show Steps p.tables e below (T22.setTop (mkF m 103 #[.val (.int p0), .val (.int p1), .val (.int p2), .val (.int p3), .val (.int p4), .val (.ref b1), .val (.ref b4), .val (.int (Int32.ofNat i)), .val (.int (Int32.ofNat j)), .val (.int (Int32.ofNat k)), .val (.ref uu), .val (.ref uv), .val (.ref uc), .val (.ref b16), .unset, .unset, .unset, .unset, .unset, .unset, .unset, .unset, .unset, .unset] [])) _
      refine XS.aload X22.here hx rfl (hb hby at_103) rfl rfl ?_
      show Steps p.tables e below (T22.setTop (mkF m 105 #[.val (.int p0), .val (.int p1), .val (.int p2), .val (.int p3), .val (.int p4), .val (.ref b1), .val (.ref b4), .val (.int (Int32.ofNat i)), .val (.int (Int32.ofNat j)), .val (.int (Int32.ofNat k)), .val (.ref uu), .val (.ref uv), .val (.ref uc), .val (.ref b16), .unset, .unset, .unset, .unset, .unset, .unset, .unset, .unset, .unset, .unset] [(.ref b16)])) _
      refine XS.iconst X22.here hx rfl (hb hby at_105) ?_
      exact Steps.refl _)
    obtain ⟨cl27, Ar27, -, S27, -, Ha27, -⟩ := id V22
    have c28 : Steps p.tables e below S0 (T22.setTop (mkF m 107 #[.val (.int p0), .val (.int p1), .val (.int p2), .val (.int p3), .val (.int p4), .val (.ref b1), .val (.ref b4), .val (.int (Int32.ofNat i)), .val (.int (Int32.ofNat j)), .val (.int (Int32.ofNat k)), .val (.ref uu), .val (.ref uv), .val (.ref uc), .val (.ref b16), .unset, .unset, .unset, .unset, .unset, .unset, .unset, .unset, .unset, .unset] [(.int (nar .char ((p3 &&& (255 : Int32)).toUInt32.toUInt16.toUInt32.toInt32)))])) := c26.trans (by
      show Steps p.tables e below (T22.setTop (mkF m 106 #[.val (.int p0), .val (.int p1), .val (.int p2), .val (.int p3), .val (.int p4), .val (.ref b1), .val (.ref b4), .val (.int (Int32.ofNat i)), .val (.int (Int32.ofNat j)), .val (.int (Int32.ofNat k)), .val (.ref uu), .val (.ref uv), .val (.ref uc), .val (.ref b16), .unset, .unset, .unset, .unset, .unset, .unset, .unset, .unset, .unset, .unset] [(.int (0 : Int32)), (.ref b16)])) _
      refine X22.caload hx (j := (0 : Int32)) (v := (.int (nar .char ((p3 &&& (255 : Int32)).toUInt32.toUInt16.toUInt32.toInt32)))) (by rw [e22]; exact Ar27.1) (State.isArrayOf_alike hZ.alike Ar27.2.1) Ar27.2.2 (inb_of S27 ⟨by decide, by decide⟩) (Ha27.at (inb_of S27 ⟨by decide, by decide⟩) rfl) (g := (mkF m 106 #[.val (.int p0), .val (.int p1), .val (.int p2), .val (.int p3), .val (.int p4), .val (.ref b1), .val (.ref b4), .val (.int (Int32.ofNat i)), .val (.int (Int32.ofNat j)), .val (.int (Int32.ofNat k)), .val (.ref uu), .val (.ref uv), .val (.ref uc), .val (.ref b16), .unset, .unset, .unset, .unset, .unset, .unset, .unset, .unset, .unset, .unset] [(.int (0 : Int32)), (.ref b16)])) rfl rfl (hb hby at_106) _ ?_
      exact Steps.refl _)
    obtain ⟨_, _, ⟨T29, L29, kk29, nn29⟩, -, X29, ⟨Lc29, hQ29, l29, y29, z29⟩, st29⟩ := Jvm.LawKit.callS X22 hx (y := (⟨"java/lang/String", "valueOf", "(C)Ljava/lang/String;"⟩ : MethodName)) hown (mvT hZ (hw _ (List.mem_of_getElem? (i := 71) rfl))) (mvT hZ (hw _ (List.mem_of_getElem? (i := 72) rfl))) (mvT hZ (hw _ (List.mem_of_getElem? (i := 73) rfl))) (mvT hZ (hw _ (List.mem_of_getElem? (i := 74) rfl))) (by decide) (backOf (W := 0) (rmValC l Z a0 hw [] (nar .char ((p3 &&& (255 : Int32)).toUInt32.toUInt16.toUInt32.toInt32)) G1 h22 n0 z22 (own_c8n (own_c8m p3)) O2 P5 (((((X00.keep Kq1 all0).keep Kq4 all0).ext E16).wr W19 (Nat.le_trans Z0 (Nat.le_trans K4.1 (Nat.le_of_eq g16.symm)))).wr W22 (Nat.le_trans Z0 (Nat.le_trans K4.1 (Nat.le_of_eq g16.symm))))) hZ (hw _ (List.mem_of_getElem? (i := 74) rfl)) (hw _ (List.mem_of_getElem? (i := 73) rfl)) (by decide) (by decide)) (g := (mkF m 107 #[.val (.int p0), .val (.int p1), .val (.int p2), .val (.int p3), .val (.int p4), .val (.ref b1), .val (.ref b4), .val (.int (Int32.ofNat i)), .val (.int (Int32.ofNat j)), .val (.int (Int32.ofNat k)), .val (.ref uu), .val (.ref uv), .val (.ref uc), .val (.ref b16), .unset, .unset, .unset, .unset, .unset, .unset, .unset, .unset, .unset, .unset] [(.int (nar .char ((p3 &&& (255 : Int32)).toUInt32.toUInt16.toUInt32.toInt32)))])) rfl (by rw [hml]; rfl) (argsL := [(.int (nar .char ((p3 &&& (255 : Int32)).toUInt32.toUInt16.toUInt32.toInt32)))]) (rest := []) (lenOf pd_oCcLjavaslangsStringe rfl) rfl (by show 2 * 0 + _ ≤ _; exact Nat.le_of_eq rfl) (hb hby at_107) (fun _ _ => ⟨rfl, e22, (by decide : 3 + 2 ≤ _), (by decide : 29 + 5 ≤ _)⟩)
    dsimp only [Pt.U, Pt.locs, Pt.cells, Pt.slots] at X29 l29 y29 z29 st29 hQ29
    subst l29 y29 z29
    obtain ⟨x29, t29, kb29, rfl, Nq29, Kq29, gx29, gt29, So29⟩ := hQ29
    have c30 : Steps p.tables e below S0 (T29.setTop (mkF m 110 #[.val (.int p0), .val (.int p1), .val (.int p2), .val (.int p3), .val (.int p4), .val (.ref b1), .val (.ref b4), .val (.int (Int32.ofNat i)), .val (.int (Int32.ofNat j)), .val (.int (Int32.ofNat k)), .val (.ref uu), .val (.ref uv), .val (.ref uc), .val (.ref b16), .unset, .unset, .unset, .unset, .unset, .unset, .unset, .unset, .unset, .unset] [(.ref x29)])) := c28.trans (st29 _ (Steps.refl _))
    have N29 := Fr.app N22 Nq29
    have z29 : n0 ≤ T29.heap.size := Nat.le_trans z22 Kq29.1
    have K29 := K22.trans Kq29 all0
    have lt_x29 := So29.1.lt
    have lt_t29 := So29.2.2.2.1.lt
    have c31 : Steps p.tables e below S0 (T29.setTop (mkF m 114 #[.val (.int p0), .val (.int p1), .val (.int p2), .val (.int p3), .val (.int p4), .val (.ref b1), .val (.ref b4), .val (.int (Int32.ofNat i)), .val (.int (Int32.ofNat j)), .val (.int (Int32.ofNat k)), .val (.ref uu), .val (.ref uv), .val (.ref uc), .val (.ref b16), .val (.ref x29), .unset, .unset, .unset, .unset, .unset, .unset, .unset, .unset, .unset] [(.ref uu)])) := c30.trans (by
      show Steps p.tables e below (T29.setTop (mkF m 110 #[.val (.int p0), .val (.int p1), .val (.int p2), .val (.int p3), .val (.int p4), .val (.ref b1), .val (.ref b4), .val (.int (Int32.ofNat i)), .val (.int (Int32.ofNat j)), .val (.int (Int32.ofNat k)), .val (.ref uu), .val (.ref uv), .val (.ref uc), .val (.ref b16), .unset, .unset, .unset, .unset, .unset, .unset, .unset, .unset, .unset, .unset] [(.ref x29)])) _
      refine XS.astore X29.here hx rfl (hb hby at_110) rfl rfl (l' := #[.val (.int p0), .val (.int p1), .val (.int p2), .val (.int p3), .val (.int p4), .val (.ref b1), .val (.ref b4), .val (.int (Int32.ofNat i)), .val (.int (Int32.ofNat j)), .val (.int (Int32.ofNat k)), .val (.ref uu), .val (.ref uv), .val (.ref uc), .val (.ref b16), .val (.ref x29), .unset, .unset, .unset, .unset, .unset, .unset, .unset, .unset, .unset]) rfl ?_
      show Steps p.tables e below (T29.setTop (mkF m 112 #[.val (.int p0), .val (.int p1), .val (.int p2), .val (.int p3), .val (.int p4), .val (.ref b1), .val (.ref b4), .val (.int (Int32.ofNat i)), .val (.int (Int32.ofNat j)), .val (.int (Int32.ofNat k)), .val (.ref uu), .val (.ref uv), .val (.ref uc), .val (.ref b16), .val (.ref x29), .unset, .unset, .unset, .unset, .unset, .unset, .unset, .unset, .unset] [])) _
      refine XS.aload X29.here hx rfl (hb hby at_112) rfl rfl ?_
      exact Steps.refl _)
    obtain ⟨_, _, ⟨T32, L32, kk32, nn32⟩, -, X32, ⟨Lc32, hQ32, l32, y32, z32⟩, st32⟩ := Jvm.LawKit.callS X29 hx (y := (⟨"com/example/cabin_audio_policy/cabinaudiopolicy/AudioAttributes", "of", "(Lcom/example/cabin_audio_policy/cabinaudiopolicy/AudioUsage;)Lcom/example/cabin_audio_policy/cabinaudiopolicy/AudioAttributes;"⟩ : MethodName)) hown (mvT hZ (hw _ (List.mem_of_getElem? (i := 97) rfl))) (mvT hZ (hw _ (List.mem_of_getElem? (i := 98) rfl))) (mvT hZ (hw _ (List.mem_of_getElem? (i := 99) rfl))) (mvT hZ (hw _ (List.mem_of_getElem? (i := 100) rfl))) (by decide) (backOf (W := 0) (rmOf l Z a0 hw [] uu T29.heap n0 z29 (((((((xuu.ext X00.2).keep Kq1).keep Kq4).ext E16).wr W19).wr W22).keep Kq29)) hZ (hw _ (List.mem_of_getElem? (i := 100) rfl)) (hw _ (List.mem_of_getElem? (i := 99) rfl)) (by decide) (by decide)) (g := (mkF m 114 #[.val (.int p0), .val (.int p1), .val (.int p2), .val (.int p3), .val (.int p4), .val (.ref b1), .val (.ref b4), .val (.int (Int32.ofNat i)), .val (.int (Int32.ofNat j)), .val (.int (Int32.ofNat k)), .val (.ref uu), .val (.ref uv), .val (.ref uc), .val (.ref b16), .val (.ref x29), .unset, .unset, .unset, .unset, .unset, .unset, .unset, .unset, .unset] [(.ref uu)])) rfl (by rw [hml]; rfl) (argsL := [(.ref uu)]) (rest := []) (lenOf pd_oLcomsexamplescabin_audio_policyscabinaudiopolicysAudioUsageecLcomsexamplescabin_audio_policyscabinaudiopolicysAudioAttributese rfl) rfl (by show 2 * 0 + _ ≤ _; exact Nat.le_of_eq rfl) (hb hby at_114) (fun _ _ => ⟨rfl, rfl, (by decide : 5 + 1 ≤ _), (by decide : 34 + 3 ≤ _)⟩)
    dsimp only [Pt.U, Pt.locs, Pt.cells, Pt.slots] at X32 l32 y32 z32 st32 hQ32
    subst l32 y32 z32
    obtain ⟨x32, rfl, Nq32, Kq32, gx32, Ei32, Fu32, Ft32, Fg32⟩ := hQ32
    have c33 : Steps p.tables e below S0 (T32.setTop (mkF m 117 #[.val (.int p0), .val (.int p1), .val (.int p2), .val (.int p3), .val (.int p4), .val (.ref b1), .val (.ref b4), .val (.int (Int32.ofNat i)), .val (.int (Int32.ofNat j)), .val (.int (Int32.ofNat k)), .val (.ref uu), .val (.ref uv), .val (.ref uc), .val (.ref b16), .val (.ref x29), .unset, .unset, .unset, .unset, .unset, .unset, .unset, .unset, .unset] [(.ref x32)])) := c31.trans (st32 _ (Steps.refl _))
    have N32 := Fr.app N29 Nq32
    have z32 : n0 ≤ T32.heap.size := Nat.le_trans z29 Kq32.1
    have K32 := K29.trans Kq32 all0
    have lt_x32 := Ei32.lt
    have c34 : Steps p.tables e below S0 (T32.setTop (mkF m 119 #[.val (.int p0), .val (.int p1), .val (.int p2), .val (.int p3), .val (.int p4), .val (.ref b1), .val (.ref b4), .val (.int (Int32.ofNat i)), .val (.int (Int32.ofNat j)), .val (.int (Int32.ofNat k)), .val (.ref uu), .val (.ref uv), .val (.ref uc), .val (.ref b16), .val (.ref x29), .val (.ref x32), .unset, .unset, .unset, .unset, .unset, .unset, .unset, .unset] [])) := c33.trans (by
      show Steps p.tables e below (T32.setTop (mkF m 117 #[.val (.int p0), .val (.int p1), .val (.int p2), .val (.int p3), .val (.int p4), .val (.ref b1), .val (.ref b4), .val (.int (Int32.ofNat i)), .val (.int (Int32.ofNat j)), .val (.int (Int32.ofNat k)), .val (.ref uu), .val (.ref uv), .val (.ref uc), .val (.ref b16), .val (.ref x29), .unset, .unset, .unset, .unset, .unset, .unset, .unset, .unset, .unset] [(.ref x32)])) _
      refine XS.astore X32.here hx rfl (hb hby at_117) rfl rfl (l' := #[.val (.int p0), .val (.int p1), .val (.int p2), .val (.int p3), .val (.int p4), .val (.ref b1), .val (.ref b4), .val (.int (Int32.ofNat i)), .val (.int (Int32.ofNat j)), .val (.int (Int32.ofNat k)), .val (.ref uu), .val (.ref uv), .val (.ref uc), .val (.ref b16), .val (.ref x29), .val (.ref x32), .unset, .unset, .unset, .unset, .unset, .unset, .unset, .unset]) rfl ?_
      exact Steps.refl _)
    obtain ⟨T35, h35, X35, e35, E35, A35, D35, -, st35⟩ := newO X32 hx hZ hown (hw _ (List.mem_of_getElem? (i := 118) rfl)) (hw _ (List.mem_of_getElem? (i := 102) rfl)) (hw _ (List.mem_of_getElem? (i := 99) rfl)) rfl (g := (mkF m 119 #[.val (.int p0), .val (.int p1), .val (.int p2), .val (.int p3), .val (.int p4), .val (.ref b1), .val (.ref b4), .val (.int (Int32.ofNat i)), .val (.int (Int32.ofNat j)), .val (.int (Int32.ofNat k)), .val (.ref uu), .val (.ref uv), .val (.ref uc), .val (.ref b16), .val (.ref x29), .val (.ref x32), .unset, .unset, .unset, .unset, .unset, .unset, .unset, .unset] [])) rfl (hb hby at_119) (by decide) (by decide)
    obtain ⟨b35, g35⟩ : ∃ z, z = T32.heap.size := ⟨_, rfl⟩
    rw [← g35] at A35 D35 st35
    have c36 : Steps p.tables e below S0 (T35.setTop (mkF m 122 #[.val (.int p0), .val (.int p1), .val (.int p2), .val (.int p3), .val (.int p4), .val (.ref b1), .val (.ref b4), .val (.int (Int32.ofNat i)), .val (.int (Int32.ofNat j)), .val (.int (Int32.ofNat k)), .val (.ref uu), .val (.ref uv), .val (.ref uc), .val (.ref b16), .val (.ref x29), .val (.ref x32), .unset, .unset, .unset, .unset, .unset, .unset, .unset, .unset] [(.ref b35)])) := c34.trans (st35 _ (Steps.refl _))
    have z35 : n0 ≤ h35.size := Nat.le_trans z32 E35.1
    have K35 := K32.ext E35
    have lt_b35 : b35 < h35.size := A35.lt
    have F35_usage : Fld Z h35 b35 "com/example/cabin_audio_policy/cabinaudiopolicy/AudioAttributes" "usage" "Lcom/example/cabin_audio_policy/cabinaudiopolicy/AudioUsage;" .null := D35 (Or.inr (hw _ (List.mem_of_getElem? (i := 113) rfl))) (ty := (.object "com/example/cabin_audio_policy/cabinaudiopolicy/AudioUsage")) (by decide)
    have F35_contentType : Fld Z h35 b35 "com/example/cabin_audio_policy/cabinaudiopolicy/AudioAttributes" "contentType" "Lcom/example/cabin_audio_policy/cabinaudiopolicy/AudioContentType;" .null := D35 (Or.inr (hw _ (List.mem_of_getElem? (i := 115) rfl))) (ty := (.object "com/example/cabin_audio_policy/cabinaudiopolicy/AudioContentType")) (by decide)
    have F35_tags : Fld Z h35 b35 "com/example/cabin_audio_policy/cabinaudiopolicy/AudioAttributes" "tags" "Ljava/lang/String;" .null := D35 (Or.inr (hw _ (List.mem_of_getElem? (i := 117) rfl))) (ty := (.object "java/lang/String")) (by decide)
    have c37 : Steps p.tables e below S0 (T35.setTop (mkF m 127 #[.val (.int p0), .val (.int p1), .val (.int p2), .val (.int p3), .val (.int p4), .val (.ref b1), .val (.ref b4), .val (.int (Int32.ofNat i)), .val (.int (Int32.ofNat j)), .val (.int (Int32.ofNat k)), .val (.ref uu), .val (.ref uv), .val (.ref uc), .val (.ref b16), .val (.ref x29), .val (.ref x32), .unset, .unset, .unset, .unset, .unset, .unset, .unset, .unset] [.null, .null, (.ref uu), (.ref b35), (.ref b35)])) := c36.trans (by
      show Steps p.tables e below (T35.setTop (mkF m 122 #[.val (.int p0), .val (.int p1), .val (.int p2), .val (.int p3), .val (.int p4), .val (.ref b1), .val (.ref b4), .val (.int (Int32.ofNat i)), .val (.int (Int32.ofNat j)), .val (.int (Int32.ofNat k)), .val (.ref uu), .val (.ref uv), .val (.ref uc), .val (.ref b16), .val (.ref x29), .val (.ref x32), .unset, .unset, .unset, .unset, .unset, .unset, .unset, .unset] [(.ref b35)])) _
      refine XS.dup X35.here hx rfl (hb hby at_122) rfl rfl ?_
      show Steps p.tables e below (T35.setTop (mkF m 123 #[.val (.int p0), .val (.int p1), .val (.int p2), .val (.int p3), .val (.int p4), .val (.ref b1), .val (.ref b4), .val (.int (Int32.ofNat i)), .val (.int (Int32.ofNat j)), .val (.int (Int32.ofNat k)), .val (.ref uu), .val (.ref uv), .val (.ref uc), .val (.ref b16), .val (.ref x29), .val (.ref x32), .unset, .unset, .unset, .unset, .unset, .unset, .unset, .unset] [(.ref b35), (.ref b35)])) _
      refine XS.aload X35.here hx rfl (hb hby at_123) rfl rfl ?_
      show Steps p.tables e below (T35.setTop (mkF m 125 #[.val (.int p0), .val (.int p1), .val (.int p2), .val (.int p3), .val (.int p4), .val (.ref b1), .val (.ref b4), .val (.int (Int32.ofNat i)), .val (.int (Int32.ofNat j)), .val (.int (Int32.ofNat k)), .val (.ref uu), .val (.ref uv), .val (.ref uc), .val (.ref b16), .val (.ref x29), .val (.ref x32), .unset, .unset, .unset, .unset, .unset, .unset, .unset, .unset] [(.ref uu), (.ref b35), (.ref b35)])) _
      refine XS.aconstNull X35.here hx rfl (hb hby at_125) ?_
      show Steps p.tables e below (T35.setTop (mkF m 126 #[.val (.int p0), .val (.int p1), .val (.int p2), .val (.int p3), .val (.int p4), .val (.ref b1), .val (.ref b4), .val (.int (Int32.ofNat i)), .val (.int (Int32.ofNat j)), .val (.int (Int32.ofNat k)), .val (.ref uu), .val (.ref uv), .val (.ref uc), .val (.ref b16), .val (.ref x29), .val (.ref x32), .unset, .unset, .unset, .unset, .unset, .unset, .unset, .unset] [.null, (.ref uu), (.ref b35), (.ref b35)])) _
      refine XS.aconstNull X35.here hx rfl (hb hby at_126) ?_
      exact Steps.refl _)
    obtain ⟨_, _, ⟨T38, L38, kk38, nn38⟩, -, X38, ⟨Lc38, hQ38, l38, y38, z38⟩, st38⟩ := X35.specialBack hx (y := (⟨"com/example/cabin_audio_policy/cabinaudiopolicy/AudioAttributes", "<init>", "(Lcom/example/cabin_audio_policy/cabinaudiopolicy/AudioUsage;Lcom/example/cabin_audio_policy/cabinaudiopolicy/AudioContentType;Ljava/lang/String;)V"⟩ : MethodName)) rfl hown (mvT hZ (hw _ (List.mem_of_getElem? (i := 119) rfl))) (mvT hZ (hw _ (List.mem_of_getElem? (i := 109) rfl))) (mvT hZ (hw _ (List.mem_of_getElem? (i := 110) rfl))) (by decide) (backOf (W := 1) (rmIni l Z a0 hw [] b35 uu .null .null h35 n0 z35 rfl rfl (Nat.le_trans Z0 (Nat.le_trans K32.1 (Nat.le_of_eq g35.symm))) A35 F35_usage F35_contentType F35_tags) hZ (hw _ (List.mem_of_getElem? (i := 110) rfl)) (hw _ (List.mem_of_getElem? (i := 99) rfl)) (by decide) (by decide)) (g := (mkF m 127 #[.val (.int p0), .val (.int p1), .val (.int p2), .val (.int p3), .val (.int p4), .val (.ref b1), .val (.ref b4), .val (.int (Int32.ofNat i)), .val (.int (Int32.ofNat j)), .val (.int (Int32.ofNat k)), .val (.ref uu), .val (.ref uv), .val (.ref uc), .val (.ref b16), .val (.ref x29), .val (.ref x32), .unset, .unset, .unset, .unset, .unset, .unset, .unset, .unset] [.null, .null, (.ref uu), (.ref b35), (.ref b35)])) rfl (by rw [hml]; rfl) (Steps.refl _) (a := b35) (argsL := [(.ref uu), .null, .null]) (rest := [(.ref b35)]) (lenOf pd_oLcomsexamplescabin_audio_policyscabinaudiopolicysAudioUsageeLcomsexamplescabin_audio_policyscabinaudiopolicysAudioContentTypeeLjavaslangsStringecV rfl) rfl (by show 2 * 0 + _ ≤ _; exact Nat.le_of_eq rfl) (hb hby at_127) (fun _ _ => ⟨rfl, e35, (by decide : 7 + 0 ≤ _), (by decide : 40 + 0 ≤ _)⟩)
    dsimp only [Pt.U, Pt.locs, Pt.cells, Pt.slots] at X38 l38 y38 z38 st38 hQ38
    subst l38 y38 z38
    obtain ⟨rfl, Nq38, Kq38, Ei38, Fu38, Ft38, Fg38⟩ := hQ38
    have c39 : Steps p.tables e below S0 (T38.setTop (mkF m 130 #[.val (.int p0), .val (.int p1), .val (.int p2), .val (.int p3), .val (.int p4), .val (.ref b1), .val (.ref b4), .val (.int (Int32.ofNat i)), .val (.int (Int32.ofNat j)), .val (.int (Int32.ofNat k)), .val (.ref uu), .val (.ref uv), .val (.ref uc), .val (.ref b16), .val (.ref x29), .val (.ref x32), .unset, .unset, .unset, .unset, .unset, .unset, .unset, .unset] [(.ref b35)])) := c37.trans (st38)
    have N38 := Fr.app N32 Nq38
    have z38 : n0 ≤ T38.heap.size := Nat.le_trans z35 Kq38.1
    have K38 := K35.trans Kq38 (allS (Or.inr (Nat.le_trans K32.1 (Nat.le_of_eq g35.symm))) all0)
    have c40 : Steps p.tables e below S0 (T38.setTop (mkF m 132 #[.val (.int p0), .val (.int p1), .val (.int p2), .val (.int p3), .val (.int p4), .val (.ref b1), .val (.ref b4), .val (.int (Int32.ofNat i)), .val (.int (Int32.ofNat j)), .val (.int (Int32.ofNat k)), .val (.ref uu), .val (.ref uv), .val (.ref uc), .val (.ref b16), .val (.ref x29), .val (.ref x32), .val (.ref b35), .unset, .unset, .unset, .unset, .unset, .unset, .unset] [])) := c39.trans (by
      show Steps p.tables e below (T38.setTop (mkF m 130 #[.val (.int p0), .val (.int p1), .val (.int p2), .val (.int p3), .val (.int p4), .val (.ref b1), .val (.ref b4), .val (.int (Int32.ofNat i)), .val (.int (Int32.ofNat j)), .val (.int (Int32.ofNat k)), .val (.ref uu), .val (.ref uv), .val (.ref uc), .val (.ref b16), .val (.ref x29), .val (.ref x32), .unset, .unset, .unset, .unset, .unset, .unset, .unset, .unset] [(.ref b35)])) _
      refine XS.astore X38.here hx rfl (hb hby at_130) rfl rfl (l' := #[.val (.int p0), .val (.int p1), .val (.int p2), .val (.int p3), .val (.int p4), .val (.ref b1), .val (.ref b4), .val (.int (Int32.ofNat i)), .val (.int (Int32.ofNat j)), .val (.int (Int32.ofNat k)), .val (.ref uu), .val (.ref uv), .val (.ref uc), .val (.ref b16), .val (.ref x29), .val (.ref x32), .val (.ref b35), .unset, .unset, .unset, .unset, .unset, .unset, .unset]) rfl ?_
      exact Steps.refl _)
    obtain ⟨T41, h41, X41, e41, E41, A41, D41, -, st41⟩ := newO X38 hx hZ hown (hw _ (List.mem_of_getElem? (i := 118) rfl)) (hw _ (List.mem_of_getElem? (i := 102) rfl)) (hw _ (List.mem_of_getElem? (i := 99) rfl)) rfl (g := (mkF m 132 #[.val (.int p0), .val (.int p1), .val (.int p2), .val (.int p3), .val (.int p4), .val (.ref b1), .val (.ref b4), .val (.int (Int32.ofNat i)), .val (.int (Int32.ofNat j)), .val (.int (Int32.ofNat k)), .val (.ref uu), .val (.ref uv), .val (.ref uc), .val (.ref b16), .val (.ref x29), .val (.ref x32), .val (.ref b35), .unset, .unset, .unset, .unset, .unset, .unset, .unset] [])) rfl (hb hby at_132) (by decide) (by decide)
    obtain ⟨b41, g41⟩ : ∃ z, z = T38.heap.size := ⟨_, rfl⟩
    rw [← g41] at A41 D41 st41
    have c42 : Steps p.tables e below S0 (T41.setTop (mkF m 135 #[.val (.int p0), .val (.int p1), .val (.int p2), .val (.int p3), .val (.int p4), .val (.ref b1), .val (.ref b4), .val (.int (Int32.ofNat i)), .val (.int (Int32.ofNat j)), .val (.int (Int32.ofNat k)), .val (.ref uu), .val (.ref uv), .val (.ref uc), .val (.ref b16), .val (.ref x29), .val (.ref x32), .val (.ref b35), .unset, .unset, .unset, .unset, .unset, .unset, .unset] [(.ref b41)])) := c40.trans (st41 _ (Steps.refl _))
    have z41 : n0 ≤ h41.size := Nat.le_trans z38 E41.1
    have K41 := K38.ext E41
    have lt_b41 : b41 < h41.size := A41.lt
    have F41_usage : Fld Z h41 b41 "com/example/cabin_audio_policy/cabinaudiopolicy/AudioAttributes" "usage" "Lcom/example/cabin_audio_policy/cabinaudiopolicy/AudioUsage;" .null := D41 (Or.inr (hw _ (List.mem_of_getElem? (i := 113) rfl))) (ty := (.object "com/example/cabin_audio_policy/cabinaudiopolicy/AudioUsage")) (by decide)
    have F41_contentType : Fld Z h41 b41 "com/example/cabin_audio_policy/cabinaudiopolicy/AudioAttributes" "contentType" "Lcom/example/cabin_audio_policy/cabinaudiopolicy/AudioContentType;" .null := D41 (Or.inr (hw _ (List.mem_of_getElem? (i := 115) rfl))) (ty := (.object "com/example/cabin_audio_policy/cabinaudiopolicy/AudioContentType")) (by decide)
    have F41_tags : Fld Z h41 b41 "com/example/cabin_audio_policy/cabinaudiopolicy/AudioAttributes" "tags" "Ljava/lang/String;" .null := D41 (Or.inr (hw _ (List.mem_of_getElem? (i := 117) rfl))) (ty := (.object "java/lang/String")) (by decide)
    have c43 : Steps p.tables e below S0 (T41.setTop (mkF m 140 #[.val (.int p0), .val (.int p1), .val (.int p2), .val (.int p3), .val (.int p4), .val (.ref b1), .val (.ref b4), .val (.int (Int32.ofNat i)), .val (.int (Int32.ofNat j)), .val (.int (Int32.ofNat k)), .val (.ref uu), .val (.ref uv), .val (.ref uc), .val (.ref b16), .val (.ref x29), .val (.ref x32), .val (.ref b35), .unset, .unset, .unset, .unset, .unset, .unset, .unset] [.null, .null, (.ref uv), (.ref b41), (.ref b41)])) := c42.trans (by
      show Steps p.tables e below (T41.setTop (mkF m 135 #[.val (.int p0), .val (.int p1), .val (.int p2), .val (.int p3), .val (.int p4), .val (.ref b1), .val (.ref b4), .val (.int (Int32.ofNat i)), .val (.int (Int32.ofNat j)), .val (.int (Int32.ofNat k)), .val (.ref uu), .val (.ref uv), .val (.ref uc), .val (.ref b16), .val (.ref x29), .val (.ref x32), .val (.ref b35), .unset, .unset, .unset, .unset, .unset, .unset, .unset] [(.ref b41)])) _
      refine XS.dup X41.here hx rfl (hb hby at_135) rfl rfl ?_
      show Steps p.tables e below (T41.setTop (mkF m 136 #[.val (.int p0), .val (.int p1), .val (.int p2), .val (.int p3), .val (.int p4), .val (.ref b1), .val (.ref b4), .val (.int (Int32.ofNat i)), .val (.int (Int32.ofNat j)), .val (.int (Int32.ofNat k)), .val (.ref uu), .val (.ref uv), .val (.ref uc), .val (.ref b16), .val (.ref x29), .val (.ref x32), .val (.ref b35), .unset, .unset, .unset, .unset, .unset, .unset, .unset] [(.ref b41), (.ref b41)])) _
      refine XS.aload X41.here hx rfl (hb hby at_136) rfl rfl ?_
      show Steps p.tables e below (T41.setTop (mkF m 138 #[.val (.int p0), .val (.int p1), .val (.int p2), .val (.int p3), .val (.int p4), .val (.ref b1), .val (.ref b4), .val (.int (Int32.ofNat i)), .val (.int (Int32.ofNat j)), .val (.int (Int32.ofNat k)), .val (.ref uu), .val (.ref uv), .val (.ref uc), .val (.ref b16), .val (.ref x29), .val (.ref x32), .val (.ref b35), .unset, .unset, .unset, .unset, .unset, .unset, .unset] [(.ref uv), (.ref b41), (.ref b41)])) _
      refine XS.aconstNull X41.here hx rfl (hb hby at_138) ?_
      show Steps p.tables e below (T41.setTop (mkF m 139 #[.val (.int p0), .val (.int p1), .val (.int p2), .val (.int p3), .val (.int p4), .val (.ref b1), .val (.ref b4), .val (.int (Int32.ofNat i)), .val (.int (Int32.ofNat j)), .val (.int (Int32.ofNat k)), .val (.ref uu), .val (.ref uv), .val (.ref uc), .val (.ref b16), .val (.ref x29), .val (.ref x32), .val (.ref b35), .unset, .unset, .unset, .unset, .unset, .unset, .unset] [.null, (.ref uv), (.ref b41), (.ref b41)])) _
      refine XS.aconstNull X41.here hx rfl (hb hby at_139) ?_
      exact Steps.refl _)
    obtain ⟨_, _, ⟨T44, L44, kk44, nn44⟩, -, X44, ⟨Lc44, hQ44, l44, y44, z44⟩, st44⟩ := X41.specialBack hx (y := (⟨"com/example/cabin_audio_policy/cabinaudiopolicy/AudioAttributes", "<init>", "(Lcom/example/cabin_audio_policy/cabinaudiopolicy/AudioUsage;Lcom/example/cabin_audio_policy/cabinaudiopolicy/AudioContentType;Ljava/lang/String;)V"⟩ : MethodName)) rfl hown (mvT hZ (hw _ (List.mem_of_getElem? (i := 119) rfl))) (mvT hZ (hw _ (List.mem_of_getElem? (i := 109) rfl))) (mvT hZ (hw _ (List.mem_of_getElem? (i := 110) rfl))) (by decide) (backOf (W := 1) (rmIni l Z a0 hw [] b41 uv .null .null h41 n0 z41 rfl rfl (Nat.le_trans Z0 (Nat.le_trans K38.1 (Nat.le_of_eq g41.symm))) A41 F41_usage F41_contentType F41_tags) hZ (hw _ (List.mem_of_getElem? (i := 110) rfl)) (hw _ (List.mem_of_getElem? (i := 99) rfl)) (by decide) (by decide)) (g := (mkF m 140 #[.val (.int p0), .val (.int p1), .val (.int p2), .val (.int p3), .val (.int p4), .val (.ref b1), .val (.ref b4), .val (.int (Int32.ofNat i)), .val (.int (Int32.ofNat j)), .val (.int (Int32.ofNat k)), .val (.ref uu), .val (.ref uv), .val (.ref uc), .val (.ref b16), .val (.ref x29), .val (.ref x32), .val (.ref b35), .unset, .unset, .unset, .unset, .unset, .unset, .unset] [.null, .null, (.ref uv), (.ref b41), (.ref b41)])) rfl (by rw [hml]; rfl) (Steps.refl _) (a := b41) (argsL := [(.ref uv), .null, .null]) (rest := [(.ref b41)]) (lenOf pd_oLcomsexamplescabin_audio_policyscabinaudiopolicysAudioUsageeLcomsexamplescabin_audio_policyscabinaudiopolicysAudioContentTypeeLjavaslangsStringecV rfl) rfl (by show 2 * 0 + _ ≤ _; exact Nat.le_of_eq rfl) (hb hby at_140) (fun _ _ => ⟨rfl, e41, (by decide : 8 + 0 ≤ _), (by decide : 43 + 0 ≤ _)⟩)
    dsimp only [Pt.U, Pt.locs, Pt.cells, Pt.slots] at X44 l44 y44 z44 st44 hQ44
    subst l44 y44 z44
    obtain ⟨rfl, Nq44, Kq44, Ei44, Fu44, Ft44, Fg44⟩ := hQ44
    have c45 : Steps p.tables e below S0 (T44.setTop (mkF m 143 #[.val (.int p0), .val (.int p1), .val (.int p2), .val (.int p3), .val (.int p4), .val (.ref b1), .val (.ref b4), .val (.int (Int32.ofNat i)), .val (.int (Int32.ofNat j)), .val (.int (Int32.ofNat k)), .val (.ref uu), .val (.ref uv), .val (.ref uc), .val (.ref b16), .val (.ref x29), .val (.ref x32), .val (.ref b35), .unset, .unset, .unset, .unset, .unset, .unset, .unset] [(.ref b41)])) := c43.trans (st44)
    have N44 := Fr.app N38 Nq44
    have z44 : n0 ≤ T44.heap.size := Nat.le_trans z41 Kq44.1
    have K44 := K41.trans Kq44 (allS (Or.inr (Nat.le_trans K38.1 (Nat.le_of_eq g41.symm))) all0)
    have c46 : Steps p.tables e below S0 (T44.setTop (mkF m 145 #[.val (.int p0), .val (.int p1), .val (.int p2), .val (.int p3), .val (.int p4), .val (.ref b1), .val (.ref b4), .val (.int (Int32.ofNat i)), .val (.int (Int32.ofNat j)), .val (.int (Int32.ofNat k)), .val (.ref uu), .val (.ref uv), .val (.ref uc), .val (.ref b16), .val (.ref x29), .val (.ref x32), .val (.ref b35), .val (.ref b41), .unset, .unset, .unset, .unset, .unset, .unset] [])) := c45.trans (by
      show Steps p.tables e below (T44.setTop (mkF m 143 #[.val (.int p0), .val (.int p1), .val (.int p2), .val (.int p3), .val (.int p4), .val (.ref b1), .val (.ref b4), .val (.int (Int32.ofNat i)), .val (.int (Int32.ofNat j)), .val (.int (Int32.ofNat k)), .val (.ref uu), .val (.ref uv), .val (.ref uc), .val (.ref b16), .val (.ref x29), .val (.ref x32), .val (.ref b35), .unset, .unset, .unset, .unset, .unset, .unset, .unset] [(.ref b41)])) _
      refine XS.astore X44.here hx rfl (hb hby at_143) rfl rfl (l' := #[.val (.int p0), .val (.int p1), .val (.int p2), .val (.int p3), .val (.int p4), .val (.ref b1), .val (.ref b4), .val (.int (Int32.ofNat i)), .val (.int (Int32.ofNat j)), .val (.int (Int32.ofNat k)), .val (.ref uu), .val (.ref uv), .val (.ref uc), .val (.ref b16), .val (.ref x29), .val (.ref x32), .val (.ref b35), .val (.ref b41), .unset, .unset, .unset, .unset, .unset, .unset]) rfl ?_
      exact Steps.refl _)
    obtain ⟨T47, h47, X47, e47, E47, A47, D47, -, st47⟩ := newO X44 hx hZ hown (hw _ (List.mem_of_getElem? (i := 118) rfl)) (hw _ (List.mem_of_getElem? (i := 102) rfl)) (hw _ (List.mem_of_getElem? (i := 99) rfl)) rfl (g := (mkF m 145 #[.val (.int p0), .val (.int p1), .val (.int p2), .val (.int p3), .val (.int p4), .val (.ref b1), .val (.ref b4), .val (.int (Int32.ofNat i)), .val (.int (Int32.ofNat j)), .val (.int (Int32.ofNat k)), .val (.ref uu), .val (.ref uv), .val (.ref uc), .val (.ref b16), .val (.ref x29), .val (.ref x32), .val (.ref b35), .val (.ref b41), .unset, .unset, .unset, .unset, .unset, .unset] [])) rfl (hb hby at_145) (by decide) (by decide)
    obtain ⟨b47, g47⟩ : ∃ z, z = T44.heap.size := ⟨_, rfl⟩
    rw [← g47] at A47 D47 st47
    have c48 : Steps p.tables e below S0 (T47.setTop (mkF m 148 #[.val (.int p0), .val (.int p1), .val (.int p2), .val (.int p3), .val (.int p4), .val (.ref b1), .val (.ref b4), .val (.int (Int32.ofNat i)), .val (.int (Int32.ofNat j)), .val (.int (Int32.ofNat k)), .val (.ref uu), .val (.ref uv), .val (.ref uc), .val (.ref b16), .val (.ref x29), .val (.ref x32), .val (.ref b35), .val (.ref b41), .unset, .unset, .unset, .unset, .unset, .unset] [(.ref b47)])) := c46.trans (st47 _ (Steps.refl _))
    have z47 : n0 ≤ h47.size := Nat.le_trans z44 E47.1
    have K47 := K44.ext E47
    have lt_b47 : b47 < h47.size := A47.lt
    have F47_usage : Fld Z h47 b47 "com/example/cabin_audio_policy/cabinaudiopolicy/AudioAttributes" "usage" "Lcom/example/cabin_audio_policy/cabinaudiopolicy/AudioUsage;" .null := D47 (Or.inr (hw _ (List.mem_of_getElem? (i := 113) rfl))) (ty := (.object "com/example/cabin_audio_policy/cabinaudiopolicy/AudioUsage")) (by decide)
    have F47_contentType : Fld Z h47 b47 "com/example/cabin_audio_policy/cabinaudiopolicy/AudioAttributes" "contentType" "Lcom/example/cabin_audio_policy/cabinaudiopolicy/AudioContentType;" .null := D47 (Or.inr (hw _ (List.mem_of_getElem? (i := 115) rfl))) (ty := (.object "com/example/cabin_audio_policy/cabinaudiopolicy/AudioContentType")) (by decide)
    have F47_tags : Fld Z h47 b47 "com/example/cabin_audio_policy/cabinaudiopolicy/AudioAttributes" "tags" "Ljava/lang/String;" .null := D47 (Or.inr (hw _ (List.mem_of_getElem? (i := 117) rfl))) (ty := (.object "java/lang/String")) (by decide)
    have c49 : Steps p.tables e below S0 (T47.setTop (mkF m 154 #[.val (.int p0), .val (.int p1), .val (.int p2), .val (.int p3), .val (.int p4), .val (.ref b1), .val (.ref b4), .val (.int (Int32.ofNat i)), .val (.int (Int32.ofNat j)), .val (.int (Int32.ofNat k)), .val (.ref uu), .val (.ref uv), .val (.ref uc), .val (.ref b16), .val (.ref x29), .val (.ref x32), .val (.ref b35), .val (.ref b41), .unset, .unset, .unset, .unset, .unset, .unset] [.null, (.ref uc), (.ref uu), (.ref b47), (.ref b47)])) := c48.trans (by
      show Steps p.tables e below (T47.setTop (mkF m 148 #[.val (.int p0), .val (.int p1), .val (.int p2), .val (.int p3), .val (.int p4), .val (.ref b1), .val (.ref b4), .val (.int (Int32.ofNat i)), .val (.int (Int32.ofNat j)), .val (.int (Int32.ofNat k)), .val (.ref uu), .val (.ref uv), .val (.ref uc), .val (.ref b16), .val (.ref x29), .val (.ref x32), .val (.ref b35), .val (.ref b41), .unset, .unset, .unset, .unset, .unset, .unset] [(.ref b47)])) _
      refine XS.dup X47.here hx rfl (hb hby at_148) rfl rfl ?_
      show Steps p.tables e below (T47.setTop (mkF m 149 #[.val (.int p0), .val (.int p1), .val (.int p2), .val (.int p3), .val (.int p4), .val (.ref b1), .val (.ref b4), .val (.int (Int32.ofNat i)), .val (.int (Int32.ofNat j)), .val (.int (Int32.ofNat k)), .val (.ref uu), .val (.ref uv), .val (.ref uc), .val (.ref b16), .val (.ref x29), .val (.ref x32), .val (.ref b35), .val (.ref b41), .unset, .unset, .unset, .unset, .unset, .unset] [(.ref b47), (.ref b47)])) _
      refine XS.aload X47.here hx rfl (hb hby at_149) rfl rfl ?_
      show Steps p.tables e below (T47.setTop (mkF m 151 #[.val (.int p0), .val (.int p1), .val (.int p2), .val (.int p3), .val (.int p4), .val (.ref b1), .val (.ref b4), .val (.int (Int32.ofNat i)), .val (.int (Int32.ofNat j)), .val (.int (Int32.ofNat k)), .val (.ref uu), .val (.ref uv), .val (.ref uc), .val (.ref b16), .val (.ref x29), .val (.ref x32), .val (.ref b35), .val (.ref b41), .unset, .unset, .unset, .unset, .unset, .unset] [(.ref uu), (.ref b47), (.ref b47)])) _
      refine XS.aload X47.here hx rfl (hb hby at_151) rfl rfl ?_
      show Steps p.tables e below (T47.setTop (mkF m 153 #[.val (.int p0), .val (.int p1), .val (.int p2), .val (.int p3), .val (.int p4), .val (.ref b1), .val (.ref b4), .val (.int (Int32.ofNat i)), .val (.int (Int32.ofNat j)), .val (.int (Int32.ofNat k)), .val (.ref uu), .val (.ref uv), .val (.ref uc), .val (.ref b16), .val (.ref x29), .val (.ref x32), .val (.ref b35), .val (.ref b41), .unset, .unset, .unset, .unset, .unset, .unset] [(.ref uc), (.ref uu), (.ref b47), (.ref b47)])) _
      refine XS.aconstNull X47.here hx rfl (hb hby at_153) ?_
      exact Steps.refl _)
    obtain ⟨_, _, ⟨T50, L50, kk50, nn50⟩, -, X50, ⟨Lc50, hQ50, l50, y50, z50⟩, st50⟩ := X47.specialBack hx (y := (⟨"com/example/cabin_audio_policy/cabinaudiopolicy/AudioAttributes", "<init>", "(Lcom/example/cabin_audio_policy/cabinaudiopolicy/AudioUsage;Lcom/example/cabin_audio_policy/cabinaudiopolicy/AudioContentType;Ljava/lang/String;)V"⟩ : MethodName)) rfl hown (mvT hZ (hw _ (List.mem_of_getElem? (i := 119) rfl))) (mvT hZ (hw _ (List.mem_of_getElem? (i := 109) rfl))) (mvT hZ (hw _ (List.mem_of_getElem? (i := 110) rfl))) (by decide) (backOf (W := 1) (rmIni l Z a0 hw [] b47 uu (.ref uc) .null h47 n0 z47 rfl rfl (Nat.le_trans Z0 (Nat.le_trans K44.1 (Nat.le_of_eq g47.symm))) A47 F47_usage F47_contentType F47_tags) hZ (hw _ (List.mem_of_getElem? (i := 110) rfl)) (hw _ (List.mem_of_getElem? (i := 99) rfl)) (by decide) (by decide)) (g := (mkF m 154 #[.val (.int p0), .val (.int p1), .val (.int p2), .val (.int p3), .val (.int p4), .val (.ref b1), .val (.ref b4), .val (.int (Int32.ofNat i)), .val (.int (Int32.ofNat j)), .val (.int (Int32.ofNat k)), .val (.ref uu), .val (.ref uv), .val (.ref uc), .val (.ref b16), .val (.ref x29), .val (.ref x32), .val (.ref b35), .val (.ref b41), .unset, .unset, .unset, .unset, .unset, .unset] [.null, (.ref uc), (.ref uu), (.ref b47), (.ref b47)])) rfl (by rw [hml]; rfl) (Steps.refl _) (a := b47) (argsL := [(.ref uu), (.ref uc), .null]) (rest := [(.ref b47)]) (lenOf pd_oLcomsexamplescabin_audio_policyscabinaudiopolicysAudioUsageeLcomsexamplescabin_audio_policyscabinaudiopolicysAudioContentTypeeLjavaslangsStringecV rfl) rfl (by show 2 * 0 + _ ≤ _; exact Nat.le_of_eq rfl) (hb hby at_154) (fun _ _ => ⟨rfl, e47, (by decide : 9 + 0 ≤ _), (by decide : 46 + 0 ≤ _)⟩)
    dsimp only [Pt.U, Pt.locs, Pt.cells, Pt.slots] at X50 l50 y50 z50 st50 hQ50
    subst l50 y50 z50
    obtain ⟨rfl, Nq50, Kq50, Ei50, Fu50, Ft50, Fg50⟩ := hQ50
    have c51 : Steps p.tables e below S0 (T50.setTop (mkF m 157 #[.val (.int p0), .val (.int p1), .val (.int p2), .val (.int p3), .val (.int p4), .val (.ref b1), .val (.ref b4), .val (.int (Int32.ofNat i)), .val (.int (Int32.ofNat j)), .val (.int (Int32.ofNat k)), .val (.ref uu), .val (.ref uv), .val (.ref uc), .val (.ref b16), .val (.ref x29), .val (.ref x32), .val (.ref b35), .val (.ref b41), .unset, .unset, .unset, .unset, .unset, .unset] [(.ref b47)])) := c49.trans (st50)
    have N50 := Fr.app N44 Nq50
    have z50 : n0 ≤ T50.heap.size := Nat.le_trans z47 Kq50.1
    have K50 := K47.trans Kq50 (allS (Or.inr (Nat.le_trans K44.1 (Nat.le_of_eq g47.symm))) all0)
    have c52 : Steps p.tables e below S0 (T50.setTop (mkF m 159 #[.val (.int p0), .val (.int p1), .val (.int p2), .val (.int p3), .val (.int p4), .val (.ref b1), .val (.ref b4), .val (.int (Int32.ofNat i)), .val (.int (Int32.ofNat j)), .val (.int (Int32.ofNat k)), .val (.ref uu), .val (.ref uv), .val (.ref uc), .val (.ref b16), .val (.ref x29), .val (.ref x32), .val (.ref b35), .val (.ref b41), .val (.ref b47), .unset, .unset, .unset, .unset, .unset] [])) := c51.trans (by
      show Steps p.tables e below (T50.setTop (mkF m 157 #[.val (.int p0), .val (.int p1), .val (.int p2), .val (.int p3), .val (.int p4), .val (.ref b1), .val (.ref b4), .val (.int (Int32.ofNat i)), .val (.int (Int32.ofNat j)), .val (.int (Int32.ofNat k)), .val (.ref uu), .val (.ref uv), .val (.ref uc), .val (.ref b16), .val (.ref x29), .val (.ref x32), .val (.ref b35), .val (.ref b41), .unset, .unset, .unset, .unset, .unset, .unset] [(.ref b47)])) _
      refine XS.astore X50.here hx rfl (hb hby at_157) rfl rfl (l' := #[.val (.int p0), .val (.int p1), .val (.int p2), .val (.int p3), .val (.int p4), .val (.ref b1), .val (.ref b4), .val (.int (Int32.ofNat i)), .val (.int (Int32.ofNat j)), .val (.int (Int32.ofNat k)), .val (.ref uu), .val (.ref uv), .val (.ref uc), .val (.ref b16), .val (.ref x29), .val (.ref x32), .val (.ref b35), .val (.ref b41), .val (.ref b47), .unset, .unset, .unset, .unset, .unset]) rfl ?_
      exact Steps.refl _)
    obtain ⟨T53, h53, X53, e53, E53, A53, D53, -, st53⟩ := newO X50 hx hZ hown (hw _ (List.mem_of_getElem? (i := 118) rfl)) (hw _ (List.mem_of_getElem? (i := 102) rfl)) (hw _ (List.mem_of_getElem? (i := 99) rfl)) rfl (g := (mkF m 159 #[.val (.int p0), .val (.int p1), .val (.int p2), .val (.int p3), .val (.int p4), .val (.ref b1), .val (.ref b4), .val (.int (Int32.ofNat i)), .val (.int (Int32.ofNat j)), .val (.int (Int32.ofNat k)), .val (.ref uu), .val (.ref uv), .val (.ref uc), .val (.ref b16), .val (.ref x29), .val (.ref x32), .val (.ref b35), .val (.ref b41), .val (.ref b47), .unset, .unset, .unset, .unset, .unset] [])) rfl (hb hby at_159) (by decide) (by decide)
    obtain ⟨b53, g53⟩ : ∃ z, z = T50.heap.size := ⟨_, rfl⟩
    rw [← g53] at A53 D53 st53
    have c54 : Steps p.tables e below S0 (T53.setTop (mkF m 162 #[.val (.int p0), .val (.int p1), .val (.int p2), .val (.int p3), .val (.int p4), .val (.ref b1), .val (.ref b4), .val (.int (Int32.ofNat i)), .val (.int (Int32.ofNat j)), .val (.int (Int32.ofNat k)), .val (.ref uu), .val (.ref uv), .val (.ref uc), .val (.ref b16), .val (.ref x29), .val (.ref x32), .val (.ref b35), .val (.ref b41), .val (.ref b47), .unset, .unset, .unset, .unset, .unset] [(.ref b53)])) := c52.trans (st53 _ (Steps.refl _))
    have z53 : n0 ≤ h53.size := Nat.le_trans z50 E53.1
    have K53 := K50.ext E53
    have lt_b53 : b53 < h53.size := A53.lt
    have F53_usage : Fld Z h53 b53 "com/example/cabin_audio_policy/cabinaudiopolicy/AudioAttributes" "usage" "Lcom/example/cabin_audio_policy/cabinaudiopolicy/AudioUsage;" .null := D53 (Or.inr (hw _ (List.mem_of_getElem? (i := 113) rfl))) (ty := (.object "com/example/cabin_audio_policy/cabinaudiopolicy/AudioUsage")) (by decide)
    have F53_contentType : Fld Z h53 b53 "com/example/cabin_audio_policy/cabinaudiopolicy/AudioAttributes" "contentType" "Lcom/example/cabin_audio_policy/cabinaudiopolicy/AudioContentType;" .null := D53 (Or.inr (hw _ (List.mem_of_getElem? (i := 115) rfl))) (ty := (.object "com/example/cabin_audio_policy/cabinaudiopolicy/AudioContentType")) (by decide)
    have F53_tags : Fld Z h53 b53 "com/example/cabin_audio_policy/cabinaudiopolicy/AudioAttributes" "tags" "Ljava/lang/String;" .null := D53 (Or.inr (hw _ (List.mem_of_getElem? (i := 117) rfl))) (ty := (.object "java/lang/String")) (by decide)
    have c55 : Steps p.tables e below S0 (T53.setTop (mkF m 168 #[.val (.int p0), .val (.int p1), .val (.int p2), .val (.int p3), .val (.int p4), .val (.ref b1), .val (.ref b4), .val (.int (Int32.ofNat i)), .val (.int (Int32.ofNat j)), .val (.int (Int32.ofNat k)), .val (.ref uu), .val (.ref uv), .val (.ref uc), .val (.ref b16), .val (.ref x29), .val (.ref x32), .val (.ref b35), .val (.ref b41), .val (.ref b47), .unset, .unset, .unset, .unset, .unset] [(.ref x29), .null, (.ref uu), (.ref b53), (.ref b53)])) := c54.trans (by
      show Steps p.tables e below (T53.setTop (mkF m 162 #[.val (.int p0), .val (.int p1), .val (.int p2), .val (.int p3), .val (.int p4), .val (.ref b1), .val (.ref b4), .val (.int (Int32.ofNat i)), .val (.int (Int32.ofNat j)), .val (.int (Int32.ofNat k)), .val (.ref uu), .val (.ref uv), .val (.ref uc), .val (.ref b16), .val (.ref x29), .val (.ref x32), .val (.ref b35), .val (.ref b41), .val (.ref b47), .unset, .unset, .unset, .unset, .unset] [(.ref b53)])) _
      refine XS.dup X53.here hx rfl (hb hby at_162) rfl rfl ?_
      show Steps p.tables e below (T53.setTop (mkF m 163 #[.val (.int p0), .val (.int p1), .val (.int p2), .val (.int p3), .val (.int p4), .val (.ref b1), .val (.ref b4), .val (.int (Int32.ofNat i)), .val (.int (Int32.ofNat j)), .val (.int (Int32.ofNat k)), .val (.ref uu), .val (.ref uv), .val (.ref uc), .val (.ref b16), .val (.ref x29), .val (.ref x32), .val (.ref b35), .val (.ref b41), .val (.ref b47), .unset, .unset, .unset, .unset, .unset] [(.ref b53), (.ref b53)])) _
      refine XS.aload X53.here hx rfl (hb hby at_163) rfl rfl ?_
      show Steps p.tables e below (T53.setTop (mkF m 165 #[.val (.int p0), .val (.int p1), .val (.int p2), .val (.int p3), .val (.int p4), .val (.ref b1), .val (.ref b4), .val (.int (Int32.ofNat i)), .val (.int (Int32.ofNat j)), .val (.int (Int32.ofNat k)), .val (.ref uu), .val (.ref uv), .val (.ref uc), .val (.ref b16), .val (.ref x29), .val (.ref x32), .val (.ref b35), .val (.ref b41), .val (.ref b47), .unset, .unset, .unset, .unset, .unset] [(.ref uu), (.ref b53), (.ref b53)])) _
      refine XS.aconstNull X53.here hx rfl (hb hby at_165) ?_
      show Steps p.tables e below (T53.setTop (mkF m 166 #[.val (.int p0), .val (.int p1), .val (.int p2), .val (.int p3), .val (.int p4), .val (.ref b1), .val (.ref b4), .val (.int (Int32.ofNat i)), .val (.int (Int32.ofNat j)), .val (.int (Int32.ofNat k)), .val (.ref uu), .val (.ref uv), .val (.ref uc), .val (.ref b16), .val (.ref x29), .val (.ref x32), .val (.ref b35), .val (.ref b41), .val (.ref b47), .unset, .unset, .unset, .unset, .unset] [.null, (.ref uu), (.ref b53), (.ref b53)])) _
      refine XS.aload X53.here hx rfl (hb hby at_166) rfl rfl ?_
      exact Steps.refl _)
    obtain ⟨_, _, ⟨T56, L56, kk56, nn56⟩, -, X56, ⟨Lc56, hQ56, l56, y56, z56⟩, st56⟩ := X53.specialBack hx (y := (⟨"com/example/cabin_audio_policy/cabinaudiopolicy/AudioAttributes", "<init>", "(Lcom/example/cabin_audio_policy/cabinaudiopolicy/AudioUsage;Lcom/example/cabin_audio_policy/cabinaudiopolicy/AudioContentType;Ljava/lang/String;)V"⟩ : MethodName)) rfl hown (mvT hZ (hw _ (List.mem_of_getElem? (i := 119) rfl))) (mvT hZ (hw _ (List.mem_of_getElem? (i := 109) rfl))) (mvT hZ (hw _ (List.mem_of_getElem? (i := 110) rfl))) (by decide) (backOf (W := 1) (rmIni l Z a0 hw [] b53 uu .null (.ref x29) h53 n0 z53 rfl rfl (Nat.le_trans Z0 (Nat.le_trans K50.1 (Nat.le_of_eq g53.symm))) A53 F53_usage F53_contentType F53_tags) hZ (hw _ (List.mem_of_getElem? (i := 110) rfl)) (hw _ (List.mem_of_getElem? (i := 99) rfl)) (by decide) (by decide)) (g := (mkF m 168 #[.val (.int p0), .val (.int p1), .val (.int p2), .val (.int p3), .val (.int p4), .val (.ref b1), .val (.ref b4), .val (.int (Int32.ofNat i)), .val (.int (Int32.ofNat j)), .val (.int (Int32.ofNat k)), .val (.ref uu), .val (.ref uv), .val (.ref uc), .val (.ref b16), .val (.ref x29), .val (.ref x32), .val (.ref b35), .val (.ref b41), .val (.ref b47), .unset, .unset, .unset, .unset, .unset] [(.ref x29), .null, (.ref uu), (.ref b53), (.ref b53)])) rfl (by rw [hml]; rfl) (Steps.refl _) (a := b53) (argsL := [(.ref uu), .null, (.ref x29)]) (rest := [(.ref b53)]) (lenOf pd_oLcomsexamplescabin_audio_policyscabinaudiopolicysAudioUsageeLcomsexamplescabin_audio_policyscabinaudiopolicysAudioContentTypeeLjavaslangsStringecV rfl) rfl (by show 2 * 0 + _ ≤ _; exact Nat.le_of_eq rfl) (hb hby at_168) (fun _ _ => ⟨rfl, e53, (by decide : 10 + 0 ≤ _), (by decide : 49 + 0 ≤ _)⟩)
    dsimp only [Pt.U, Pt.locs, Pt.cells, Pt.slots] at X56 l56 y56 z56 st56 hQ56
    subst l56 y56 z56
    obtain ⟨rfl, Nq56, Kq56, Ei56, Fu56, Ft56, Fg56⟩ := hQ56
    have c57 : Steps p.tables e below S0 (T56.setTop (mkF m 171 #[.val (.int p0), .val (.int p1), .val (.int p2), .val (.int p3), .val (.int p4), .val (.ref b1), .val (.ref b4), .val (.int (Int32.ofNat i)), .val (.int (Int32.ofNat j)), .val (.int (Int32.ofNat k)), .val (.ref uu), .val (.ref uv), .val (.ref uc), .val (.ref b16), .val (.ref x29), .val (.ref x32), .val (.ref b35), .val (.ref b41), .val (.ref b47), .unset, .unset, .unset, .unset, .unset] [(.ref b53)])) := c55.trans (st56)
    have N56 := Fr.app N50 Nq56
    have z56 : n0 ≤ T56.heap.size := Nat.le_trans z53 Kq56.1
    have K56 := K53.trans Kq56 (allS (Or.inr (Nat.le_trans K50.1 (Nat.le_of_eq g53.symm))) all0)
    have c58 : Steps p.tables e below S0 (T56.setTop (mkF m 177 #[.val (.int p0), .val (.int p1), .val (.int p2), .val (.int p3), .val (.int p4), .val (.ref b1), .val (.ref b4), .val (.int (Int32.ofNat i)), .val (.int (Int32.ofNat j)), .val (.int (Int32.ofNat k)), .val (.ref uu), .val (.ref uv), .val (.ref uc), .val (.ref b16), .val (.ref x29), .val (.ref x32), .val (.ref b35), .val (.ref b41), .val (.ref b47), .val (.ref b53), .unset, .unset, .unset, .unset] [(.ref b35), (.ref x32)])) := c57.trans (by
      show Steps p.tables e below (T56.setTop (mkF m 171 #[.val (.int p0), .val (.int p1), .val (.int p2), .val (.int p3), .val (.int p4), .val (.ref b1), .val (.ref b4), .val (.int (Int32.ofNat i)), .val (.int (Int32.ofNat j)), .val (.int (Int32.ofNat k)), .val (.ref uu), .val (.ref uv), .val (.ref uc), .val (.ref b16), .val (.ref x29), .val (.ref x32), .val (.ref b35), .val (.ref b41), .val (.ref b47), .unset, .unset, .unset, .unset, .unset] [(.ref b53)])) _
      refine XS.astore X56.here hx rfl (hb hby at_171) rfl rfl (l' := #[.val (.int p0), .val (.int p1), .val (.int p2), .val (.int p3), .val (.int p4), .val (.ref b1), .val (.ref b4), .val (.int (Int32.ofNat i)), .val (.int (Int32.ofNat j)), .val (.int (Int32.ofNat k)), .val (.ref uu), .val (.ref uv), .val (.ref uc), .val (.ref b16), .val (.ref x29), .val (.ref x32), .val (.ref b35), .val (.ref b41), .val (.ref b47), .val (.ref b53), .unset, .unset, .unset, .unset]) rfl ?_
      show Steps p.tables e below (T56.setTop (mkF m 173 #[.val (.int p0), .val (.int p1), .val (.int p2), .val (.int p3), .val (.int p4), .val (.ref b1), .val (.ref b4), .val (.int (Int32.ofNat i)), .val (.int (Int32.ofNat j)), .val (.int (Int32.ofNat k)), .val (.ref uu), .val (.ref uv), .val (.ref uc), .val (.ref b16), .val (.ref x29), .val (.ref x32), .val (.ref b35), .val (.ref b41), .val (.ref b47), .val (.ref b53), .unset, .unset, .unset, .unset] [])) _
      refine XS.aload X56.here hx rfl (hb hby at_173) rfl rfl ?_
      show Steps p.tables e below (T56.setTop (mkF m 175 #[.val (.int p0), .val (.int p1), .val (.int p2), .val (.int p3), .val (.int p4), .val (.ref b1), .val (.ref b4), .val (.int (Int32.ofNat i)), .val (.int (Int32.ofNat j)), .val (.int (Int32.ofNat k)), .val (.ref uu), .val (.ref uv), .val (.ref uc), .val (.ref b16), .val (.ref x29), .val (.ref x32), .val (.ref b35), .val (.ref b41), .val (.ref b47), .val (.ref b53), .unset, .unset, .unset, .unset] [(.ref x32)])) _
      refine XS.aload X56.here hx rfl (hb hby at_175) rfl rfl ?_
      exact Steps.refl _)
    obtain ⟨cq59, kq59, q59a, q59b, q59c⟩ := isOf hZ rfl ((((((((Ei32.ext E35).keep Kq38).ext E41).keep Kq44).ext E47).keep Kq50).ext E53).keep Kq56)
    obtain ⟨_, _, ⟨T59, L59, kk59, nn59⟩, -, X59, ⟨Lc59, hQ59, l59, y59, z59⟩, st59⟩ := X56.virtualBack hx (y := (⟨"com/example/cabin_audio_policy/cabinaudiopolicy/AudioAttributes", "equals", "(Ljava/lang/Object;)Z"⟩ : MethodName)) (z := (⟨"com/example/cabin_audio_policy/cabinaudiopolicy/AudioAttributes", "equals", "(Ljava/lang/Object;)Z"⟩ : MethodName)) hown (mvT hZ (hw _ (List.mem_of_getElem? (i := 120) rfl))) (mvT hZ (hw _ (List.mem_of_getElem? (i := 121) rfl))) (notFace_of_selects (args := #[]) (mvT hZ (hw _ (List.mem_of_getElem? (i := 123) rfl)))) (mvT hZ (hw _ (List.mem_of_getElem? (i := 123) rfl))) (mvT hZ (hw _ (List.mem_of_getElem? (i := 122) rfl))) (by decide) (backOf (W := 0) (rmEq l Z a0 hw [] x32 b35 uu uu .null .null T56.heap n0 z56 rfl rfl ((((((Ei38.ext E41).keep Kq44).ext E47).keep Kq50).ext E53).keep Kq56) ((((((((Fu32.ext E35).keep Kq38 (ninS (Nat.ne_of_lt (Nat.lt_of_lt_of_le lt_x32 (Nat.le_of_eq g35.symm))) nin0)).ext E41).keep Kq44 (ninS (Nat.ne_of_lt (Nat.lt_of_lt_of_le (Nat.lt_of_lt_of_le lt_x32 (Nat.le_trans E35.1 Kq38.1)) (Nat.le_of_eq g41.symm))) nin0)).ext E47).keep Kq50 (ninS (Nat.ne_of_lt (Nat.lt_of_lt_of_le (Nat.lt_of_lt_of_le lt_x32 (Nat.le_trans (Nat.le_trans (Nat.le_trans E35.1 Kq38.1) E41.1) Kq44.1)) (Nat.le_of_eq g47.symm))) nin0)).ext E53).keep Kq56 (ninS (Nat.ne_of_lt (Nat.lt_of_lt_of_le (Nat.lt_of_lt_of_le lt_x32 (Nat.le_trans (Nat.le_trans (Nat.le_trans (Nat.le_trans (Nat.le_trans E35.1 Kq38.1) E41.1) Kq44.1) E47.1) Kq50.1)) (Nat.le_of_eq g53.symm))) nin0)) ((((((((Ft32.ext E35).keep Kq38 (ninS (Nat.ne_of_lt (Nat.lt_of_lt_of_le lt_x32 (Nat.le_of_eq g35.symm))) nin0)).ext E41).keep Kq44 (ninS (Nat.ne_of_lt (Nat.lt_of_lt_of_le (Nat.lt_of_lt_of_le lt_x32 (Nat.le_trans E35.1 Kq38.1)) (Nat.le_of_eq g41.symm))) nin0)).ext E47).keep Kq50 (ninS (Nat.ne_of_lt (Nat.lt_of_lt_of_le (Nat.lt_of_lt_of_le lt_x32 (Nat.le_trans (Nat.le_trans (Nat.le_trans E35.1 Kq38.1) E41.1) Kq44.1)) (Nat.le_of_eq g47.symm))) nin0)).ext E53).keep Kq56 (ninS (Nat.ne_of_lt (Nat.lt_of_lt_of_le (Nat.lt_of_lt_of_le lt_x32 (Nat.le_trans (Nat.le_trans (Nat.le_trans (Nat.le_trans (Nat.le_trans E35.1 Kq38.1) E41.1) Kq44.1) E47.1) Kq50.1)) (Nat.le_of_eq g53.symm))) nin0)) ((((((((Fg32.ext E35).keep Kq38 (ninS (Nat.ne_of_lt (Nat.lt_of_lt_of_le lt_x32 (Nat.le_of_eq g35.symm))) nin0)).ext E41).keep Kq44 (ninS (Nat.ne_of_lt (Nat.lt_of_lt_of_le (Nat.lt_of_lt_of_le lt_x32 (Nat.le_trans E35.1 Kq38.1)) (Nat.le_of_eq g41.symm))) nin0)).ext E47).keep Kq50 (ninS (Nat.ne_of_lt (Nat.lt_of_lt_of_le (Nat.lt_of_lt_of_le lt_x32 (Nat.le_trans (Nat.le_trans (Nat.le_trans E35.1 Kq38.1) E41.1) Kq44.1)) (Nat.le_of_eq g47.symm))) nin0)).ext E53).keep Kq56 (ninS (Nat.ne_of_lt (Nat.lt_of_lt_of_le (Nat.lt_of_lt_of_le lt_x32 (Nat.le_trans (Nat.le_trans (Nat.le_trans (Nat.le_trans (Nat.le_trans E35.1 Kq38.1) E41.1) Kq44.1) E47.1) Kq50.1)) (Nat.le_of_eq g53.symm))) nin0)) ((((((Fu38.ext E41).keep Kq44 (ninS (Nat.ne_of_lt (Nat.lt_of_lt_of_le (Nat.lt_of_lt_of_le lt_b35 Kq38.1) (Nat.le_of_eq g41.symm))) nin0)).ext E47).keep Kq50 (ninS (Nat.ne_of_lt (Nat.lt_of_lt_of_le (Nat.lt_of_lt_of_le lt_b35 (Nat.le_trans (Nat.le_trans Kq38.1 E41.1) Kq44.1)) (Nat.le_of_eq g47.symm))) nin0)).ext E53).keep Kq56 (ninS (Nat.ne_of_lt (Nat.lt_of_lt_of_le (Nat.lt_of_lt_of_le lt_b35 (Nat.le_trans (Nat.le_trans (Nat.le_trans (Nat.le_trans Kq38.1 E41.1) Kq44.1) E47.1) Kq50.1)) (Nat.le_of_eq g53.symm))) nin0)) ((((((Ft38.ext E41).keep Kq44 (ninS (Nat.ne_of_lt (Nat.lt_of_lt_of_le (Nat.lt_of_lt_of_le lt_b35 Kq38.1) (Nat.le_of_eq g41.symm))) nin0)).ext E47).keep Kq50 (ninS (Nat.ne_of_lt (Nat.lt_of_lt_of_le (Nat.lt_of_lt_of_le lt_b35 (Nat.le_trans (Nat.le_trans Kq38.1 E41.1) Kq44.1)) (Nat.le_of_eq g47.symm))) nin0)).ext E53).keep Kq56 (ninS (Nat.ne_of_lt (Nat.lt_of_lt_of_le (Nat.lt_of_lt_of_le lt_b35 (Nat.le_trans (Nat.le_trans (Nat.le_trans (Nat.le_trans Kq38.1 E41.1) Kq44.1) E47.1) Kq50.1)) (Nat.le_of_eq g53.symm))) nin0)) ((((((Fg38.ext E41).keep Kq44 (ninS (Nat.ne_of_lt (Nat.lt_of_lt_of_le (Nat.lt_of_lt_of_le lt_b35 Kq38.1) (Nat.le_of_eq g41.symm))) nin0)).ext E47).keep Kq50 (ninS (Nat.ne_of_lt (Nat.lt_of_lt_of_le (Nat.lt_of_lt_of_le lt_b35 (Nat.le_trans (Nat.le_trans Kq38.1 E41.1) Kq44.1)) (Nat.le_of_eq g47.symm))) nin0)).ext E53).keep Kq56 (ninS (Nat.ne_of_lt (Nat.lt_of_lt_of_le (Nat.lt_of_lt_of_le lt_b35 (Nat.le_trans (Nat.le_trans (Nat.le_trans (Nat.le_trans Kq38.1 E41.1) Kq44.1) E47.1) Kq50.1)) (Nat.le_of_eq g53.symm))) nin0))) hZ (hw _ (List.mem_of_getElem? (i := 124) rfl)) (hw _ (List.mem_of_getElem? (i := 99) rfl)) (by decide) (by decide)) q59a q59c (g := (mkF m 177 #[.val (.int p0), .val (.int p1), .val (.int p2), .val (.int p3), .val (.int p4), .val (.ref b1), .val (.ref b4), .val (.int (Int32.ofNat i)), .val (.int (Int32.ofNat j)), .val (.int (Int32.ofNat k)), .val (.ref uu), .val (.ref uv), .val (.ref uc), .val (.ref b16), .val (.ref x29), .val (.ref x32), .val (.ref b35), .val (.ref b41), .val (.ref b47), .val (.ref b53), .unset, .unset, .unset, .unset] [(.ref b35), (.ref x32)])) rfl (by rw [hml]; rfl) (Steps.refl _) (argsL := [(.ref b35)]) (rest := []) (lenOf pd_oLjavaslangsObjectecZ rfl) rfl (by show 2 * 0 + _ ≤ _; exact Nat.le_of_eq rfl) (hb hby at_177) (fun _ _ => ⟨rfl, rfl, (by decide : 10 + 0 ≤ _), (by decide : 49 + 0 ≤ _)⟩)
    dsimp only [Pt.U, Pt.locs, Pt.cells, Pt.slots] at X59 l59 y59 z59 st59 hQ59
    subst l59 y59 z59
    obtain ⟨r59, rfl, hr59, Nq59, eq59⟩ := hQ59
    have c60 : Steps p.tables e below S0 (T59.setTop (mkF m 180 #[.val (.int p0), .val (.int p1), .val (.int p2), .val (.int p3), .val (.int p4), .val (.ref b1), .val (.ref b4), .val (.int (Int32.ofNat i)), .val (.int (Int32.ofNat j)), .val (.int (Int32.ofNat k)), .val (.ref uu), .val (.ref uv), .val (.ref uc), .val (.ref b16), .val (.ref x29), .val (.ref x32), .val (.ref b35), .val (.ref b41), .val (.ref b47), .val (.ref b53), .unset, .unset, .unset, .unset] [(.int r59)])) := c58.trans (st59)
    have N59 := Fr.app N56 Nq59
    have c61 : Steps p.tables e below S0 (T59.setTop (mkF m 186 #[.val (.int p0), .val (.int p1), .val (.int p2), .val (.int p3), .val (.int p4), .val (.ref b1), .val (.ref b4), .val (.int (Int32.ofNat i)), .val (.int (Int32.ofNat j)), .val (.int (Int32.ofNat k)), .val (.ref uu), .val (.ref uv), .val (.ref uc), .val (.ref b16), .val (.ref x29), .val (.ref x32), .val (.ref b35), .val (.ref b41), .val (.ref b47), .val (.ref b53), .val (.int r59), .unset, .unset, .unset] [(.ref b41), (.ref x32)])) := c60.trans (by
      show Steps p.tables e below (T59.setTop (mkF m 180 #[.val (.int p0), .val (.int p1), .val (.int p2), .val (.int p3), .val (.int p4), .val (.ref b1), .val (.ref b4), .val (.int (Int32.ofNat i)), .val (.int (Int32.ofNat j)), .val (.int (Int32.ofNat k)), .val (.ref uu), .val (.ref uv), .val (.ref uc), .val (.ref b16), .val (.ref x29), .val (.ref x32), .val (.ref b35), .val (.ref b41), .val (.ref b47), .val (.ref b53), .unset, .unset, .unset, .unset] [(.int r59)])) _
      refine XS.istore X59.here hx rfl (hb hby at_180) rfl (l' := #[.val (.int p0), .val (.int p1), .val (.int p2), .val (.int p3), .val (.int p4), .val (.ref b1), .val (.ref b4), .val (.int (Int32.ofNat i)), .val (.int (Int32.ofNat j)), .val (.int (Int32.ofNat k)), .val (.ref uu), .val (.ref uv), .val (.ref uc), .val (.ref b16), .val (.ref x29), .val (.ref x32), .val (.ref b35), .val (.ref b41), .val (.ref b47), .val (.ref b53), .val (.int r59), .unset, .unset, .unset]) rfl ?_
      show Steps p.tables e below (T59.setTop (mkF m 182 #[.val (.int p0), .val (.int p1), .val (.int p2), .val (.int p3), .val (.int p4), .val (.ref b1), .val (.ref b4), .val (.int (Int32.ofNat i)), .val (.int (Int32.ofNat j)), .val (.int (Int32.ofNat k)), .val (.ref uu), .val (.ref uv), .val (.ref uc), .val (.ref b16), .val (.ref x29), .val (.ref x32), .val (.ref b35), .val (.ref b41), .val (.ref b47), .val (.ref b53), .val (.int r59), .unset, .unset, .unset] [])) _
      refine XS.aload X59.here hx rfl (hb hby at_182) rfl rfl ?_
      show Steps p.tables e below (T59.setTop (mkF m 184 #[.val (.int p0), .val (.int p1), .val (.int p2), .val (.int p3), .val (.int p4), .val (.ref b1), .val (.ref b4), .val (.int (Int32.ofNat i)), .val (.int (Int32.ofNat j)), .val (.int (Int32.ofNat k)), .val (.ref uu), .val (.ref uv), .val (.ref uc), .val (.ref b16), .val (.ref x29), .val (.ref x32), .val (.ref b35), .val (.ref b41), .val (.ref b47), .val (.ref b53), .val (.int r59), .unset, .unset, .unset] [(.ref x32)])) _
      refine XS.aload X59.here hx rfl (hb hby at_184) rfl rfl ?_
      exact Steps.refl _)
    obtain ⟨cq62, kq62, q62a, q62b, q62c⟩ := isOf hZ eq59 ((((((((Ei32.ext E35).keep Kq38).ext E41).keep Kq44).ext E47).keep Kq50).ext E53).keep Kq56)
    obtain ⟨_, _, ⟨T62, L62, kk62, nn62⟩, -, X62, ⟨Lc62, hQ62, l62, y62, z62⟩, st62⟩ := X59.virtualBack hx (y := (⟨"com/example/cabin_audio_policy/cabinaudiopolicy/AudioAttributes", "equals", "(Ljava/lang/Object;)Z"⟩ : MethodName)) (z := (⟨"com/example/cabin_audio_policy/cabinaudiopolicy/AudioAttributes", "equals", "(Ljava/lang/Object;)Z"⟩ : MethodName)) hown (mvT hZ (hw _ (List.mem_of_getElem? (i := 120) rfl))) (mvT hZ (hw _ (List.mem_of_getElem? (i := 121) rfl))) (notFace_of_selects (args := #[]) (mvT hZ (hw _ (List.mem_of_getElem? (i := 123) rfl)))) (mvT hZ (hw _ (List.mem_of_getElem? (i := 123) rfl))) (mvT hZ (hw _ (List.mem_of_getElem? (i := 122) rfl))) (by decide) (backOf (W := 0) (rmEq l Z a0 hw [] x32 b41 uu uv .null .null T56.heap n0 z56 rfl rfl ((((Ei44.ext E47).keep Kq50).ext E53).keep Kq56) ((((((((Fu32.ext E35).keep Kq38 (ninS (Nat.ne_of_lt (Nat.lt_of_lt_of_le lt_x32 (Nat.le_of_eq g35.symm))) nin0)).ext E41).keep Kq44 (ninS (Nat.ne_of_lt (Nat.lt_of_lt_of_le (Nat.lt_of_lt_of_le lt_x32 (Nat.le_trans E35.1 Kq38.1)) (Nat.le_of_eq g41.symm))) nin0)).ext E47).keep Kq50 (ninS (Nat.ne_of_lt (Nat.lt_of_lt_of_le (Nat.lt_of_lt_of_le lt_x32 (Nat.le_trans (Nat.le_trans (Nat.le_trans E35.1 Kq38.1) E41.1) Kq44.1)) (Nat.le_of_eq g47.symm))) nin0)).ext E53).keep Kq56 (ninS (Nat.ne_of_lt (Nat.lt_of_lt_of_le (Nat.lt_of_lt_of_le lt_x32 (Nat.le_trans (Nat.le_trans (Nat.le_trans (Nat.le_trans (Nat.le_trans E35.1 Kq38.1) E41.1) Kq44.1) E47.1) Kq50.1)) (Nat.le_of_eq g53.symm))) nin0)) ((((((((Ft32.ext E35).keep Kq38 (ninS (Nat.ne_of_lt (Nat.lt_of_lt_of_le lt_x32 (Nat.le_of_eq g35.symm))) nin0)).ext E41).keep Kq44 (ninS (Nat.ne_of_lt (Nat.lt_of_lt_of_le (Nat.lt_of_lt_of_le lt_x32 (Nat.le_trans E35.1 Kq38.1)) (Nat.le_of_eq g41.symm))) nin0)).ext E47).keep Kq50 (ninS (Nat.ne_of_lt (Nat.lt_of_lt_of_le (Nat.lt_of_lt_of_le lt_x32 (Nat.le_trans (Nat.le_trans (Nat.le_trans E35.1 Kq38.1) E41.1) Kq44.1)) (Nat.le_of_eq g47.symm))) nin0)).ext E53).keep Kq56 (ninS (Nat.ne_of_lt (Nat.lt_of_lt_of_le (Nat.lt_of_lt_of_le lt_x32 (Nat.le_trans (Nat.le_trans (Nat.le_trans (Nat.le_trans (Nat.le_trans E35.1 Kq38.1) E41.1) Kq44.1) E47.1) Kq50.1)) (Nat.le_of_eq g53.symm))) nin0)) ((((((((Fg32.ext E35).keep Kq38 (ninS (Nat.ne_of_lt (Nat.lt_of_lt_of_le lt_x32 (Nat.le_of_eq g35.symm))) nin0)).ext E41).keep Kq44 (ninS (Nat.ne_of_lt (Nat.lt_of_lt_of_le (Nat.lt_of_lt_of_le lt_x32 (Nat.le_trans E35.1 Kq38.1)) (Nat.le_of_eq g41.symm))) nin0)).ext E47).keep Kq50 (ninS (Nat.ne_of_lt (Nat.lt_of_lt_of_le (Nat.lt_of_lt_of_le lt_x32 (Nat.le_trans (Nat.le_trans (Nat.le_trans E35.1 Kq38.1) E41.1) Kq44.1)) (Nat.le_of_eq g47.symm))) nin0)).ext E53).keep Kq56 (ninS (Nat.ne_of_lt (Nat.lt_of_lt_of_le (Nat.lt_of_lt_of_le lt_x32 (Nat.le_trans (Nat.le_trans (Nat.le_trans (Nat.le_trans (Nat.le_trans E35.1 Kq38.1) E41.1) Kq44.1) E47.1) Kq50.1)) (Nat.le_of_eq g53.symm))) nin0)) ((((Fu44.ext E47).keep Kq50 (ninS (Nat.ne_of_lt (Nat.lt_of_lt_of_le (Nat.lt_of_lt_of_le lt_b41 Kq44.1) (Nat.le_of_eq g47.symm))) nin0)).ext E53).keep Kq56 (ninS (Nat.ne_of_lt (Nat.lt_of_lt_of_le (Nat.lt_of_lt_of_le lt_b41 (Nat.le_trans (Nat.le_trans Kq44.1 E47.1) Kq50.1)) (Nat.le_of_eq g53.symm))) nin0)) ((((Ft44.ext E47).keep Kq50 (ninS (Nat.ne_of_lt (Nat.lt_of_lt_of_le (Nat.lt_of_lt_of_le lt_b41 Kq44.1) (Nat.le_of_eq g47.symm))) nin0)).ext E53).keep Kq56 (ninS (Nat.ne_of_lt (Nat.lt_of_lt_of_le (Nat.lt_of_lt_of_le lt_b41 (Nat.le_trans (Nat.le_trans Kq44.1 E47.1) Kq50.1)) (Nat.le_of_eq g53.symm))) nin0)) ((((Fg44.ext E47).keep Kq50 (ninS (Nat.ne_of_lt (Nat.lt_of_lt_of_le (Nat.lt_of_lt_of_le lt_b41 Kq44.1) (Nat.le_of_eq g47.symm))) nin0)).ext E53).keep Kq56 (ninS (Nat.ne_of_lt (Nat.lt_of_lt_of_le (Nat.lt_of_lt_of_le lt_b41 (Nat.le_trans (Nat.le_trans Kq44.1 E47.1) Kq50.1)) (Nat.le_of_eq g53.symm))) nin0))) hZ (hw _ (List.mem_of_getElem? (i := 124) rfl)) (hw _ (List.mem_of_getElem? (i := 99) rfl)) (by decide) (by decide)) q62a q62c (g := (mkF m 186 #[.val (.int p0), .val (.int p1), .val (.int p2), .val (.int p3), .val (.int p4), .val (.ref b1), .val (.ref b4), .val (.int (Int32.ofNat i)), .val (.int (Int32.ofNat j)), .val (.int (Int32.ofNat k)), .val (.ref uu), .val (.ref uv), .val (.ref uc), .val (.ref b16), .val (.ref x29), .val (.ref x32), .val (.ref b35), .val (.ref b41), .val (.ref b47), .val (.ref b53), .val (.int r59), .unset, .unset, .unset] [(.ref b41), (.ref x32)])) rfl (by rw [hml]; rfl) (Steps.refl _) (argsL := [(.ref b41)]) (rest := []) (lenOf pd_oLjavaslangsObjectecZ rfl) rfl (by show 2 * 0 + _ ≤ _; exact Nat.le_of_eq rfl) (hb hby at_186) (fun _ _ => ⟨rfl, eq59, (by decide : 10 + 0 ≤ _), (by decide : 49 + 0 ≤ _)⟩)
    dsimp only [Pt.U, Pt.locs, Pt.cells, Pt.slots] at X62 l62 y62 z62 st62 hQ62
    subst l62 y62 z62
    obtain ⟨r62, rfl, hr62, Nq62, eq62⟩ := hQ62
    have c63 : Steps p.tables e below S0 (T62.setTop (mkF m 189 #[.val (.int p0), .val (.int p1), .val (.int p2), .val (.int p3), .val (.int p4), .val (.ref b1), .val (.ref b4), .val (.int (Int32.ofNat i)), .val (.int (Int32.ofNat j)), .val (.int (Int32.ofNat k)), .val (.ref uu), .val (.ref uv), .val (.ref uc), .val (.ref b16), .val (.ref x29), .val (.ref x32), .val (.ref b35), .val (.ref b41), .val (.ref b47), .val (.ref b53), .val (.int r59), .unset, .unset, .unset] [(.int r62)])) := c61.trans (st62)
    have N62 := Fr.app N59 Nq62
    have c64 : Steps p.tables e below S0 (T62.setTop (mkF m 195 #[.val (.int p0), .val (.int p1), .val (.int p2), .val (.int p3), .val (.int p4), .val (.ref b1), .val (.ref b4), .val (.int (Int32.ofNat i)), .val (.int (Int32.ofNat j)), .val (.int (Int32.ofNat k)), .val (.ref uu), .val (.ref uv), .val (.ref uc), .val (.ref b16), .val (.ref x29), .val (.ref x32), .val (.ref b35), .val (.ref b41), .val (.ref b47), .val (.ref b53), .val (.int r59), .val (.int r62), .unset, .unset] [(.ref b47), (.ref x32)])) := c63.trans (by
      show Steps p.tables e below (T62.setTop (mkF m 189 #[.val (.int p0), .val (.int p1), .val (.int p2), .val (.int p3), .val (.int p4), .val (.ref b1), .val (.ref b4), .val (.int (Int32.ofNat i)), .val (.int (Int32.ofNat j)), .val (.int (Int32.ofNat k)), .val (.ref uu), .val (.ref uv), .val (.ref uc), .val (.ref b16), .val (.ref x29), .val (.ref x32), .val (.ref b35), .val (.ref b41), .val (.ref b47), .val (.ref b53), .val (.int r59), .unset, .unset, .unset] [(.int r62)])) _
      refine XS.istore X62.here hx rfl (hb hby at_189) rfl (l' := #[.val (.int p0), .val (.int p1), .val (.int p2), .val (.int p3), .val (.int p4), .val (.ref b1), .val (.ref b4), .val (.int (Int32.ofNat i)), .val (.int (Int32.ofNat j)), .val (.int (Int32.ofNat k)), .val (.ref uu), .val (.ref uv), .val (.ref uc), .val (.ref b16), .val (.ref x29), .val (.ref x32), .val (.ref b35), .val (.ref b41), .val (.ref b47), .val (.ref b53), .val (.int r59), .val (.int r62), .unset, .unset]) rfl ?_
      show Steps p.tables e below (T62.setTop (mkF m 191 #[.val (.int p0), .val (.int p1), .val (.int p2), .val (.int p3), .val (.int p4), .val (.ref b1), .val (.ref b4), .val (.int (Int32.ofNat i)), .val (.int (Int32.ofNat j)), .val (.int (Int32.ofNat k)), .val (.ref uu), .val (.ref uv), .val (.ref uc), .val (.ref b16), .val (.ref x29), .val (.ref x32), .val (.ref b35), .val (.ref b41), .val (.ref b47), .val (.ref b53), .val (.int r59), .val (.int r62), .unset, .unset] [])) _
      refine XS.aload X62.here hx rfl (hb hby at_191) rfl rfl ?_
      show Steps p.tables e below (T62.setTop (mkF m 193 #[.val (.int p0), .val (.int p1), .val (.int p2), .val (.int p3), .val (.int p4), .val (.ref b1), .val (.ref b4), .val (.int (Int32.ofNat i)), .val (.int (Int32.ofNat j)), .val (.int (Int32.ofNat k)), .val (.ref uu), .val (.ref uv), .val (.ref uc), .val (.ref b16), .val (.ref x29), .val (.ref x32), .val (.ref b35), .val (.ref b41), .val (.ref b47), .val (.ref b53), .val (.int r59), .val (.int r62), .unset, .unset] [(.ref x32)])) _
      refine XS.aload X62.here hx rfl (hb hby at_193) rfl rfl ?_
      exact Steps.refl _)
    obtain ⟨cq65, kq65, q65a, q65b, q65c⟩ := isOf hZ eq62 ((((((((Ei32.ext E35).keep Kq38).ext E41).keep Kq44).ext E47).keep Kq50).ext E53).keep Kq56)
    obtain ⟨_, _, ⟨T65, L65, kk65, nn65⟩, -, X65, ⟨Lc65, hQ65, l65, y65, z65⟩, st65⟩ := X62.virtualBack hx (y := (⟨"com/example/cabin_audio_policy/cabinaudiopolicy/AudioAttributes", "equals", "(Ljava/lang/Object;)Z"⟩ : MethodName)) (z := (⟨"com/example/cabin_audio_policy/cabinaudiopolicy/AudioAttributes", "equals", "(Ljava/lang/Object;)Z"⟩ : MethodName)) hown (mvT hZ (hw _ (List.mem_of_getElem? (i := 120) rfl))) (mvT hZ (hw _ (List.mem_of_getElem? (i := 121) rfl))) (notFace_of_selects (args := #[]) (mvT hZ (hw _ (List.mem_of_getElem? (i := 123) rfl)))) (mvT hZ (hw _ (List.mem_of_getElem? (i := 123) rfl))) (mvT hZ (hw _ (List.mem_of_getElem? (i := 122) rfl))) (by decide) (backOf (W := 0) (rmEq l Z a0 hw [] x32 b47 uu uu (.ref uc) .null T56.heap n0 z56 rfl rfl ((Ei50.ext E53).keep Kq56) ((((((((Fu32.ext E35).keep Kq38 (ninS (Nat.ne_of_lt (Nat.lt_of_lt_of_le lt_x32 (Nat.le_of_eq g35.symm))) nin0)).ext E41).keep Kq44 (ninS (Nat.ne_of_lt (Nat.lt_of_lt_of_le (Nat.lt_of_lt_of_le lt_x32 (Nat.le_trans E35.1 Kq38.1)) (Nat.le_of_eq g41.symm))) nin0)).ext E47).keep Kq50 (ninS (Nat.ne_of_lt (Nat.lt_of_lt_of_le (Nat.lt_of_lt_of_le lt_x32 (Nat.le_trans (Nat.le_trans (Nat.le_trans E35.1 Kq38.1) E41.1) Kq44.1)) (Nat.le_of_eq g47.symm))) nin0)).ext E53).keep Kq56 (ninS (Nat.ne_of_lt (Nat.lt_of_lt_of_le (Nat.lt_of_lt_of_le lt_x32 (Nat.le_trans (Nat.le_trans (Nat.le_trans (Nat.le_trans (Nat.le_trans E35.1 Kq38.1) E41.1) Kq44.1) E47.1) Kq50.1)) (Nat.le_of_eq g53.symm))) nin0)) ((((((((Ft32.ext E35).keep Kq38 (ninS (Nat.ne_of_lt (Nat.lt_of_lt_of_le lt_x32 (Nat.le_of_eq g35.symm))) nin0)).ext E41).keep Kq44 (ninS (Nat.ne_of_lt (Nat.lt_of_lt_of_le (Nat.lt_of_lt_of_le lt_x32 (Nat.le_trans E35.1 Kq38.1)) (Nat.le_of_eq g41.symm))) nin0)).ext E47).keep Kq50 (ninS (Nat.ne_of_lt (Nat.lt_of_lt_of_le (Nat.lt_of_lt_of_le lt_x32 (Nat.le_trans (Nat.le_trans (Nat.le_trans E35.1 Kq38.1) E41.1) Kq44.1)) (Nat.le_of_eq g47.symm))) nin0)).ext E53).keep Kq56 (ninS (Nat.ne_of_lt (Nat.lt_of_lt_of_le (Nat.lt_of_lt_of_le lt_x32 (Nat.le_trans (Nat.le_trans (Nat.le_trans (Nat.le_trans (Nat.le_trans E35.1 Kq38.1) E41.1) Kq44.1) E47.1) Kq50.1)) (Nat.le_of_eq g53.symm))) nin0)) ((((((((Fg32.ext E35).keep Kq38 (ninS (Nat.ne_of_lt (Nat.lt_of_lt_of_le lt_x32 (Nat.le_of_eq g35.symm))) nin0)).ext E41).keep Kq44 (ninS (Nat.ne_of_lt (Nat.lt_of_lt_of_le (Nat.lt_of_lt_of_le lt_x32 (Nat.le_trans E35.1 Kq38.1)) (Nat.le_of_eq g41.symm))) nin0)).ext E47).keep Kq50 (ninS (Nat.ne_of_lt (Nat.lt_of_lt_of_le (Nat.lt_of_lt_of_le lt_x32 (Nat.le_trans (Nat.le_trans (Nat.le_trans E35.1 Kq38.1) E41.1) Kq44.1)) (Nat.le_of_eq g47.symm))) nin0)).ext E53).keep Kq56 (ninS (Nat.ne_of_lt (Nat.lt_of_lt_of_le (Nat.lt_of_lt_of_le lt_x32 (Nat.le_trans (Nat.le_trans (Nat.le_trans (Nat.le_trans (Nat.le_trans E35.1 Kq38.1) E41.1) Kq44.1) E47.1) Kq50.1)) (Nat.le_of_eq g53.symm))) nin0)) ((Fu50.ext E53).keep Kq56 (ninS (Nat.ne_of_lt (Nat.lt_of_lt_of_le (Nat.lt_of_lt_of_le lt_b47 Kq50.1) (Nat.le_of_eq g53.symm))) nin0)) ((Ft50.ext E53).keep Kq56 (ninS (Nat.ne_of_lt (Nat.lt_of_lt_of_le (Nat.lt_of_lt_of_le lt_b47 Kq50.1) (Nat.le_of_eq g53.symm))) nin0)) ((Fg50.ext E53).keep Kq56 (ninS (Nat.ne_of_lt (Nat.lt_of_lt_of_le (Nat.lt_of_lt_of_le lt_b47 Kq50.1) (Nat.le_of_eq g53.symm))) nin0))) hZ (hw _ (List.mem_of_getElem? (i := 124) rfl)) (hw _ (List.mem_of_getElem? (i := 99) rfl)) (by decide) (by decide)) q65a q65c (g := (mkF m 195 #[.val (.int p0), .val (.int p1), .val (.int p2), .val (.int p3), .val (.int p4), .val (.ref b1), .val (.ref b4), .val (.int (Int32.ofNat i)), .val (.int (Int32.ofNat j)), .val (.int (Int32.ofNat k)), .val (.ref uu), .val (.ref uv), .val (.ref uc), .val (.ref b16), .val (.ref x29), .val (.ref x32), .val (.ref b35), .val (.ref b41), .val (.ref b47), .val (.ref b53), .val (.int r59), .val (.int r62), .unset, .unset] [(.ref b47), (.ref x32)])) rfl (by rw [hml]; rfl) (Steps.refl _) (argsL := [(.ref b47)]) (rest := []) (lenOf pd_oLjavaslangsObjectecZ rfl) rfl (by show 2 * 0 + _ ≤ _; exact Nat.le_of_eq rfl) (hb hby at_195) (fun _ _ => ⟨rfl, eq62, (by decide : 10 + 0 ≤ _), (by decide : 49 + 0 ≤ _)⟩)
    dsimp only [Pt.U, Pt.locs, Pt.cells, Pt.slots] at X65 l65 y65 z65 st65 hQ65
    subst l65 y65 z65
    obtain ⟨r65, rfl, hr65, Nq65, eq65⟩ := hQ65
    have c66 : Steps p.tables e below S0 (T65.setTop (mkF m 198 #[.val (.int p0), .val (.int p1), .val (.int p2), .val (.int p3), .val (.int p4), .val (.ref b1), .val (.ref b4), .val (.int (Int32.ofNat i)), .val (.int (Int32.ofNat j)), .val (.int (Int32.ofNat k)), .val (.ref uu), .val (.ref uv), .val (.ref uc), .val (.ref b16), .val (.ref x29), .val (.ref x32), .val (.ref b35), .val (.ref b41), .val (.ref b47), .val (.ref b53), .val (.int r59), .val (.int r62), .unset, .unset] [(.int r65)])) := c64.trans (st65)
    have N65 := Fr.app N62 Nq65
    have c67 : Steps p.tables e below S0 (T65.setTop (mkF m 204 #[.val (.int p0), .val (.int p1), .val (.int p2), .val (.int p3), .val (.int p4), .val (.ref b1), .val (.ref b4), .val (.int (Int32.ofNat i)), .val (.int (Int32.ofNat j)), .val (.int (Int32.ofNat k)), .val (.ref uu), .val (.ref uv), .val (.ref uc), .val (.ref b16), .val (.ref x29), .val (.ref x32), .val (.ref b35), .val (.ref b41), .val (.ref b47), .val (.ref b53), .val (.int r59), .val (.int r62), .val (.int r65), .unset] [(.ref b53), (.ref x32)])) := c66.trans (by
      show Steps p.tables e below (T65.setTop (mkF m 198 #[.val (.int p0), .val (.int p1), .val (.int p2), .val (.int p3), .val (.int p4), .val (.ref b1), .val (.ref b4), .val (.int (Int32.ofNat i)), .val (.int (Int32.ofNat j)), .val (.int (Int32.ofNat k)), .val (.ref uu), .val (.ref uv), .val (.ref uc), .val (.ref b16), .val (.ref x29), .val (.ref x32), .val (.ref b35), .val (.ref b41), .val (.ref b47), .val (.ref b53), .val (.int r59), .val (.int r62), .unset, .unset] [(.int r65)])) _
      refine XS.istore X65.here hx rfl (hb hby at_198) rfl (l' := #[.val (.int p0), .val (.int p1), .val (.int p2), .val (.int p3), .val (.int p4), .val (.ref b1), .val (.ref b4), .val (.int (Int32.ofNat i)), .val (.int (Int32.ofNat j)), .val (.int (Int32.ofNat k)), .val (.ref uu), .val (.ref uv), .val (.ref uc), .val (.ref b16), .val (.ref x29), .val (.ref x32), .val (.ref b35), .val (.ref b41), .val (.ref b47), .val (.ref b53), .val (.int r59), .val (.int r62), .val (.int r65), .unset]) rfl ?_
      show Steps p.tables e below (T65.setTop (mkF m 200 #[.val (.int p0), .val (.int p1), .val (.int p2), .val (.int p3), .val (.int p4), .val (.ref b1), .val (.ref b4), .val (.int (Int32.ofNat i)), .val (.int (Int32.ofNat j)), .val (.int (Int32.ofNat k)), .val (.ref uu), .val (.ref uv), .val (.ref uc), .val (.ref b16), .val (.ref x29), .val (.ref x32), .val (.ref b35), .val (.ref b41), .val (.ref b47), .val (.ref b53), .val (.int r59), .val (.int r62), .val (.int r65), .unset] [])) _
      refine XS.aload X65.here hx rfl (hb hby at_200) rfl rfl ?_
      show Steps p.tables e below (T65.setTop (mkF m 202 #[.val (.int p0), .val (.int p1), .val (.int p2), .val (.int p3), .val (.int p4), .val (.ref b1), .val (.ref b4), .val (.int (Int32.ofNat i)), .val (.int (Int32.ofNat j)), .val (.int (Int32.ofNat k)), .val (.ref uu), .val (.ref uv), .val (.ref uc), .val (.ref b16), .val (.ref x29), .val (.ref x32), .val (.ref b35), .val (.ref b41), .val (.ref b47), .val (.ref b53), .val (.int r59), .val (.int r62), .val (.int r65), .unset] [(.ref x32)])) _
      refine XS.aload X65.here hx rfl (hb hby at_202) rfl rfl ?_
      exact Steps.refl _)
    obtain ⟨cq68, kq68, q68a, q68b, q68c⟩ := isOf hZ eq65 ((((((((Ei32.ext E35).keep Kq38).ext E41).keep Kq44).ext E47).keep Kq50).ext E53).keep Kq56)
    obtain ⟨_, _, ⟨T68, L68, kk68, nn68⟩, -, X68, ⟨Lc68, hQ68, l68, y68, z68⟩, st68⟩ := X65.virtualBack hx (y := (⟨"com/example/cabin_audio_policy/cabinaudiopolicy/AudioAttributes", "equals", "(Ljava/lang/Object;)Z"⟩ : MethodName)) (z := (⟨"com/example/cabin_audio_policy/cabinaudiopolicy/AudioAttributes", "equals", "(Ljava/lang/Object;)Z"⟩ : MethodName)) hown (mvT hZ (hw _ (List.mem_of_getElem? (i := 120) rfl))) (mvT hZ (hw _ (List.mem_of_getElem? (i := 121) rfl))) (notFace_of_selects (args := #[]) (mvT hZ (hw _ (List.mem_of_getElem? (i := 123) rfl)))) (mvT hZ (hw _ (List.mem_of_getElem? (i := 123) rfl))) (mvT hZ (hw _ (List.mem_of_getElem? (i := 122) rfl))) (by decide) (backOf (W := 0) (rmEq l Z a0 hw [] x32 b53 uu uu .null (.ref x29) T56.heap n0 z56 rfl rfl Ei56 ((((((((Fu32.ext E35).keep Kq38 (ninS (Nat.ne_of_lt (Nat.lt_of_lt_of_le lt_x32 (Nat.le_of_eq g35.symm))) nin0)).ext E41).keep Kq44 (ninS (Nat.ne_of_lt (Nat.lt_of_lt_of_le (Nat.lt_of_lt_of_le lt_x32 (Nat.le_trans E35.1 Kq38.1)) (Nat.le_of_eq g41.symm))) nin0)).ext E47).keep Kq50 (ninS (Nat.ne_of_lt (Nat.lt_of_lt_of_le (Nat.lt_of_lt_of_le lt_x32 (Nat.le_trans (Nat.le_trans (Nat.le_trans E35.1 Kq38.1) E41.1) Kq44.1)) (Nat.le_of_eq g47.symm))) nin0)).ext E53).keep Kq56 (ninS (Nat.ne_of_lt (Nat.lt_of_lt_of_le (Nat.lt_of_lt_of_le lt_x32 (Nat.le_trans (Nat.le_trans (Nat.le_trans (Nat.le_trans (Nat.le_trans E35.1 Kq38.1) E41.1) Kq44.1) E47.1) Kq50.1)) (Nat.le_of_eq g53.symm))) nin0)) ((((((((Ft32.ext E35).keep Kq38 (ninS (Nat.ne_of_lt (Nat.lt_of_lt_of_le lt_x32 (Nat.le_of_eq g35.symm))) nin0)).ext E41).keep Kq44 (ninS (Nat.ne_of_lt (Nat.lt_of_lt_of_le (Nat.lt_of_lt_of_le lt_x32 (Nat.le_trans E35.1 Kq38.1)) (Nat.le_of_eq g41.symm))) nin0)).ext E47).keep Kq50 (ninS (Nat.ne_of_lt (Nat.lt_of_lt_of_le (Nat.lt_of_lt_of_le lt_x32 (Nat.le_trans (Nat.le_trans (Nat.le_trans E35.1 Kq38.1) E41.1) Kq44.1)) (Nat.le_of_eq g47.symm))) nin0)).ext E53).keep Kq56 (ninS (Nat.ne_of_lt (Nat.lt_of_lt_of_le (Nat.lt_of_lt_of_le lt_x32 (Nat.le_trans (Nat.le_trans (Nat.le_trans (Nat.le_trans (Nat.le_trans E35.1 Kq38.1) E41.1) Kq44.1) E47.1) Kq50.1)) (Nat.le_of_eq g53.symm))) nin0)) ((((((((Fg32.ext E35).keep Kq38 (ninS (Nat.ne_of_lt (Nat.lt_of_lt_of_le lt_x32 (Nat.le_of_eq g35.symm))) nin0)).ext E41).keep Kq44 (ninS (Nat.ne_of_lt (Nat.lt_of_lt_of_le (Nat.lt_of_lt_of_le lt_x32 (Nat.le_trans E35.1 Kq38.1)) (Nat.le_of_eq g41.symm))) nin0)).ext E47).keep Kq50 (ninS (Nat.ne_of_lt (Nat.lt_of_lt_of_le (Nat.lt_of_lt_of_le lt_x32 (Nat.le_trans (Nat.le_trans (Nat.le_trans E35.1 Kq38.1) E41.1) Kq44.1)) (Nat.le_of_eq g47.symm))) nin0)).ext E53).keep Kq56 (ninS (Nat.ne_of_lt (Nat.lt_of_lt_of_le (Nat.lt_of_lt_of_le lt_x32 (Nat.le_trans (Nat.le_trans (Nat.le_trans (Nat.le_trans (Nat.le_trans E35.1 Kq38.1) E41.1) Kq44.1) E47.1) Kq50.1)) (Nat.le_of_eq g53.symm))) nin0)) Fu56 Ft56 Fg56) hZ (hw _ (List.mem_of_getElem? (i := 124) rfl)) (hw _ (List.mem_of_getElem? (i := 99) rfl)) (by decide) (by decide)) q68a q68c (g := (mkF m 204 #[.val (.int p0), .val (.int p1), .val (.int p2), .val (.int p3), .val (.int p4), .val (.ref b1), .val (.ref b4), .val (.int (Int32.ofNat i)), .val (.int (Int32.ofNat j)), .val (.int (Int32.ofNat k)), .val (.ref uu), .val (.ref uv), .val (.ref uc), .val (.ref b16), .val (.ref x29), .val (.ref x32), .val (.ref b35), .val (.ref b41), .val (.ref b47), .val (.ref b53), .val (.int r59), .val (.int r62), .val (.int r65), .unset] [(.ref b53), (.ref x32)])) rfl (by rw [hml]; rfl) (Steps.refl _) (argsL := [(.ref b53)]) (rest := []) (lenOf pd_oLjavaslangsObjectecZ rfl) rfl (by show 2 * 0 + _ ≤ _; exact Nat.le_of_eq rfl) (hb hby at_204) (fun _ _ => ⟨rfl, eq65, (by decide : 10 + 0 ≤ _), (by decide : 49 + 0 ≤ _)⟩)
    dsimp only [Pt.U, Pt.locs, Pt.cells, Pt.slots] at X68 l68 y68 z68 st68 hQ68
    subst l68 y68 z68
    obtain ⟨r68, rfl, hr68, Nq68, eq68⟩ := hQ68
    have c69 : Steps p.tables e below S0 (T68.setTop (mkF m 207 #[.val (.int p0), .val (.int p1), .val (.int p2), .val (.int p3), .val (.int p4), .val (.ref b1), .val (.ref b4), .val (.int (Int32.ofNat i)), .val (.int (Int32.ofNat j)), .val (.int (Int32.ofNat k)), .val (.ref uu), .val (.ref uv), .val (.ref uc), .val (.ref b16), .val (.ref x29), .val (.ref x32), .val (.ref b35), .val (.ref b41), .val (.ref b47), .val (.ref b53), .val (.int r59), .val (.int r62), .val (.int r65), .unset] [(.int r68)])) := c67.trans (st68)
    have N68 := Fr.app N65 Nq68
    have c70 : Steps p.tables e below S0 (T68.setTop (mkF m 220 #[.val (.int p0), .val (.int p1), .val (.int p2), .val (.int p3), .val (.int p4), .val (.ref b1), .val (.ref b4), .val (.int (Int32.ofNat i)), .val (.int (Int32.ofNat j)), .val (.int (Int32.ofNat k)), .val (.ref uu), .val (.ref uv), .val (.ref uc), .val (.ref b16), .val (.ref x29), .val (.ref x32), .val (.ref b35), .val (.ref b41), .val (.ref b47), .val (.ref b53), .val (.int r59), .val (.int r62), .val (.int r65), .val (.int r68)] [(.int (Int32.ofNat j)), (.int (Int32.ofNat i)), (.int r62)])) := c69.trans (by
      show Steps p.tables e below (T68.setTop (mkF m 207 #[.val (.int p0), .val (.int p1), .val (.int p2), .val (.int p3), .val (.int p4), .val (.ref b1), .val (.ref b4), .val (.int (Int32.ofNat i)), .val (.int (Int32.ofNat j)), .val (.int (Int32.ofNat k)), .val (.ref uu), .val (.ref uv), .val (.ref uc), .val (.ref b16), .val (.ref x29), .val (.ref x32), .val (.ref b35), .val (.ref b41), .val (.ref b47), .val (.ref b53), .val (.int r59), .val (.int r62), .val (.int r65), .unset] [(.int r68)])) _
      refine XS.istore X68.here hx rfl (hb hby at_207) rfl (l' := #[.val (.int p0), .val (.int p1), .val (.int p2), .val (.int p3), .val (.int p4), .val (.ref b1), .val (.ref b4), .val (.int (Int32.ofNat i)), .val (.int (Int32.ofNat j)), .val (.int (Int32.ofNat k)), .val (.ref uu), .val (.ref uv), .val (.ref uc), .val (.ref b16), .val (.ref x29), .val (.ref x32), .val (.ref b35), .val (.ref b41), .val (.ref b47), .val (.ref b53), .val (.int r59), .val (.int r62), .val (.int r65), .val (.int r68)]) rfl ?_
      show Steps p.tables e below (T68.setTop (mkF m 209 #[.val (.int p0), .val (.int p1), .val (.int p2), .val (.int p3), .val (.int p4), .val (.ref b1), .val (.ref b4), .val (.int (Int32.ofNat i)), .val (.int (Int32.ofNat j)), .val (.int (Int32.ofNat k)), .val (.ref uu), .val (.ref uv), .val (.ref uc), .val (.ref b16), .val (.ref x29), .val (.ref x32), .val (.ref b35), .val (.ref b41), .val (.ref b47), .val (.ref b53), .val (.int r59), .val (.int r62), .val (.int r65), .val (.int r68)] [])) _
      refine XS.iload X68.here hx rfl (hb hby at_209) rfl ?_
      show Steps p.tables e below (T68.setTop (mkF m 211 #[.val (.int p0), .val (.int p1), .val (.int p2), .val (.int p3), .val (.int p4), .val (.ref b1), .val (.ref b4), .val (.int (Int32.ofNat i)), .val (.int (Int32.ofNat j)), .val (.int (Int32.ofNat k)), .val (.ref uu), .val (.ref uv), .val (.ref uc), .val (.ref b16), .val (.ref x29), .val (.ref x32), .val (.ref b35), .val (.ref b41), .val (.ref b47), .val (.ref b53), .val (.int r59), .val (.int r62), .val (.int r65), .val (.int r68)] [(.int r59)])) _
      refine XS.ifNo X68.here hx rfl (hb hby at_211) rfl ((if0 _ _).trans (feq (fun q => absurd ((own_is1 hr59 ⟨rfl, rfl, rfl⟩).symm.trans q) (by decide))).1) ?_
      show Steps p.tables e below (T68.setTop (mkF m 214 #[.val (.int p0), .val (.int p1), .val (.int p2), .val (.int p3), .val (.int p4), .val (.ref b1), .val (.ref b4), .val (.int (Int32.ofNat i)), .val (.int (Int32.ofNat j)), .val (.int (Int32.ofNat k)), .val (.ref uu), .val (.ref uv), .val (.ref uc), .val (.ref b16), .val (.ref x29), .val (.ref x32), .val (.ref b35), .val (.ref b41), .val (.ref b47), .val (.ref b53), .val (.int r59), .val (.int r62), .val (.int r65), .val (.int r68)] [])) _
      refine XS.iload X68.here hx rfl (hb hby at_214) rfl ?_
      show Steps p.tables e below (T68.setTop (mkF m 216 #[.val (.int p0), .val (.int p1), .val (.int p2), .val (.int p3), .val (.int p4), .val (.ref b1), .val (.ref b4), .val (.int (Int32.ofNat i)), .val (.int (Int32.ofNat j)), .val (.int (Int32.ofNat k)), .val (.ref uu), .val (.ref uv), .val (.ref uc), .val (.ref b16), .val (.ref x29), .val (.ref x32), .val (.ref b35), .val (.ref b41), .val (.ref b47), .val (.ref b53), .val (.int r59), .val (.int r62), .val (.int r65), .val (.int r68)] [(.int r62)])) _
      refine XS.iload X68.here hx rfl (hb hby at_216) rfl ?_
      show Steps p.tables e below (T68.setTop (mkF m 218 #[.val (.int p0), .val (.int p1), .val (.int p2), .val (.int p3), .val (.int p4), .val (.ref b1), .val (.ref b4), .val (.int (Int32.ofNat i)), .val (.int (Int32.ofNat j)), .val (.int (Int32.ofNat k)), .val (.ref uu), .val (.ref uv), .val (.ref uc), .val (.ref b16), .val (.ref x29), .val (.ref x32), .val (.ref b35), .val (.ref b41), .val (.ref b47), .val (.ref b53), .val (.int r59), .val (.int r62), .val (.int r65), .val (.int r68)] [(.int (Int32.ofNat i)), (.int r62)])) _
      refine XS.iload X68.here hx rfl (hb hby at_218) rfl ?_
      exact Steps.refl _)
    obtain ⟨vij, hvij, c73⟩ : ∃ (vij : Int32), vij = (if (Int32.ofNat i) = (Int32.ofNat j) then (1 : Int32) else (0 : Int32)) ∧ Steps p.tables e below S0 (T68.setTop (mkF m 228 #[.val (.int p0), .val (.int p1), .val (.int p2), .val (.int p3), .val (.int p4), .val (.ref b1), .val (.ref b4), .val (.int (Int32.ofNat i)), .val (.int (Int32.ofNat j)), .val (.int (Int32.ofNat k)), .val (.ref uu), .val (.ref uv), .val (.ref uc), .val (.ref b16), .val (.ref x29), .val (.ref x32), .val (.ref b35), .val (.ref b41), .val (.ref b47), .val (.ref b53), .val (.int r59), .val (.int r62), .val (.int r65), .val (.int r68)] [(.int vij), (.int r62)])) := by
      by_cases hq71 : (Int32.ofNat i) = (Int32.ofNat j)
      · exact ⟨_, (by rw [if_pos hq71]), c70.trans (by
          show Steps p.tables e below (T68.setTop (mkF m 220 #[.val (.int p0), .val (.int p1), .val (.int p2), .val (.int p3), .val (.int p4), .val (.ref b1), .val (.ref b4), .val (.int (Int32.ofNat i)), .val (.int (Int32.ofNat j)), .val (.int (Int32.ofNat k)), .val (.ref uu), .val (.ref uv), .val (.ref uc), .val (.ref b16), .val (.ref x29), .val (.ref x32), .val (.ref b35), .val (.ref b41), .val (.ref b47), .val (.ref b53), .val (.int r59), .val (.int r62), .val (.int r65), .val (.int r68)] [(.int (Int32.ofNat j)), (.int (Int32.ofNat i)), (.int r62)])) _
          refine XS.icmpNo X68.here hx rfl (hb hby at_220) rfl (teq hq71).2 ?_
          show Steps p.tables e below (T68.setTop (mkF m 223 #[.val (.int p0), .val (.int p1), .val (.int p2), .val (.int p3), .val (.int p4), .val (.ref b1), .val (.ref b4), .val (.int (Int32.ofNat i)), .val (.int (Int32.ofNat j)), .val (.int (Int32.ofNat k)), .val (.ref uu), .val (.ref uv), .val (.ref uc), .val (.ref b16), .val (.ref x29), .val (.ref x32), .val (.ref b35), .val (.ref b41), .val (.ref b47), .val (.ref b53), .val (.int r59), .val (.int r62), .val (.int r65), .val (.int r68)] [(.int r62)])) _
          refine XS.iconst X68.here hx rfl (hb hby at_223) ?_
          show Steps p.tables e below (T68.setTop (mkF m 224 #[.val (.int p0), .val (.int p1), .val (.int p2), .val (.int p3), .val (.int p4), .val (.ref b1), .val (.ref b4), .val (.int (Int32.ofNat i)), .val (.int (Int32.ofNat j)), .val (.int (Int32.ofNat k)), .val (.ref uu), .val (.ref uv), .val (.ref uc), .val (.ref b16), .val (.ref x29), .val (.ref x32), .val (.ref b35), .val (.ref b41), .val (.ref b47), .val (.ref b53), .val (.int r59), .val (.int r62), .val (.int r65), .val (.int r68)] [(.int (1 : Int32)), (.int r62)])) _
          refine XS.goto X68.here hx rfl (pc0 := 224) (pc' := 228) rfl (hb hby at_224) (by decide) (by decide) ?_
          exact Steps.refl _)⟩
      · exact ⟨_, (by rw [if_neg hq71]), c70.trans (by
          show Steps p.tables e below (T68.setTop (mkF m 220 #[.val (.int p0), .val (.int p1), .val (.int p2), .val (.int p3), .val (.int p4), .val (.ref b1), .val (.ref b4), .val (.int (Int32.ofNat i)), .val (.int (Int32.ofNat j)), .val (.int (Int32.ofNat k)), .val (.ref uu), .val (.ref uv), .val (.ref uc), .val (.ref b16), .val (.ref x29), .val (.ref x32), .val (.ref b35), .val (.ref b41), .val (.ref b47), .val (.ref b53), .val (.int r59), .val (.int r62), .val (.int r65), .val (.int r68)] [(.int (Int32.ofNat j)), (.int (Int32.ofNat i)), (.int r62)])) _
          refine XS.icmpYes X68.here hx rfl (pc0 := 220) (pc' := 227) rfl (hb hby at_220) rfl (feq hq71).2 (by decide) (by decide) ?_
          show Steps p.tables e below (T68.setTop (mkF m 227 #[.val (.int p0), .val (.int p1), .val (.int p2), .val (.int p3), .val (.int p4), .val (.ref b1), .val (.ref b4), .val (.int (Int32.ofNat i)), .val (.int (Int32.ofNat j)), .val (.int (Int32.ofNat k)), .val (.ref uu), .val (.ref uv), .val (.ref uc), .val (.ref b16), .val (.ref x29), .val (.ref x32), .val (.ref b35), .val (.ref b41), .val (.ref b47), .val (.ref b53), .val (.int r59), .val (.int r62), .val (.int r65), .val (.int r68)] [(.int r62)])) _
          refine XS.iconst X68.here hx rfl (hb hby at_227) ?_
          exact Steps.refl _)⟩
    have c74 : Steps p.tables e below S0 (T68.setTop (mkF m 246 #[.val (.int p0), .val (.int p1), .val (.int p2), .val (.int p3), .val (.int p4), .val (.ref b1), .val (.ref b4), .val (.int (Int32.ofNat i)), .val (.int (Int32.ofNat j)), .val (.int (Int32.ofNat k)), .val (.ref uu), .val (.ref uv), .val (.ref uc), .val (.ref b16), .val (.ref x29), .val (.ref x32), .val (.ref b35), .val (.ref b41), .val (.ref b47), .val (.ref b53), .val (.int r59), .val (.int r62), .val (.int r65), .val (.int r68)] [(.int (1 : Int32))])) := c73.trans (by
      show Steps p.tables e below (T68.setTop (mkF m 228 #[.val (.int p0), .val (.int p1), .val (.int p2), .val (.int p3), .val (.int p4), .val (.ref b1), .val (.ref b4), .val (.int (Int32.ofNat i)), .val (.int (Int32.ofNat j)), .val (.int (Int32.ofNat k)), .val (.ref uu), .val (.ref uv), .val (.ref uc), .val (.ref b16), .val (.ref x29), .val (.ref x32), .val (.ref b35), .val (.ref b41), .val (.ref b47), .val (.ref b53), .val (.int r59), .val (.int r62), .val (.int r65), .val (.int r68)] [(.int vij), (.int r62)])) _
      refine XS.icmpNo X68.here hx rfl (hb hby at_228) rfl (teq (own_cmp hi hj hvij (fun q => huu ▸ huv ▸ q ▸ rfl) (fun q => Fld.ne (huu ▸ hUo i hi) (huv ▸ hUo j hj) q) hr62)).2 ?_
      show Steps p.tables e below (T68.setTop (mkF m 231 #[.val (.int p0), .val (.int p1), .val (.int p2), .val (.int p3), .val (.int p4), .val (.ref b1), .val (.ref b4), .val (.int (Int32.ofNat i)), .val (.int (Int32.ofNat j)), .val (.int (Int32.ofNat k)), .val (.ref uu), .val (.ref uv), .val (.ref uc), .val (.ref b16), .val (.ref x29), .val (.ref x32), .val (.ref b35), .val (.ref b41), .val (.ref b47), .val (.ref b53), .val (.int r59), .val (.int r62), .val (.int r65), .val (.int r68)] [])) _
      refine XS.iload X68.here hx rfl (hb hby at_231) rfl ?_
      show Steps p.tables e below (T68.setTop (mkF m 233 #[.val (.int p0), .val (.int p1), .val (.int p2), .val (.int p3), .val (.int p4), .val (.ref b1), .val (.ref b4), .val (.int (Int32.ofNat i)), .val (.int (Int32.ofNat j)), .val (.int (Int32.ofNat k)), .val (.ref uu), .val (.ref uv), .val (.ref uc), .val (.ref b16), .val (.ref x29), .val (.ref x32), .val (.ref b35), .val (.ref b41), .val (.ref b47), .val (.ref b53), .val (.int r59), .val (.int r62), .val (.int r65), .val (.int r68)] [(.int r65)])) _
      refine XS.ifNo X68.here hx rfl (hb hby at_233) rfl ((if0 _ _).trans (teq (own_is0 hr65 (fun q => nomatch q.2.1))).2) ?_
      show Steps p.tables e below (T68.setTop (mkF m 236 #[.val (.int p0), .val (.int p1), .val (.int p2), .val (.int p3), .val (.int p4), .val (.ref b1), .val (.ref b4), .val (.int (Int32.ofNat i)), .val (.int (Int32.ofNat j)), .val (.int (Int32.ofNat k)), .val (.ref uu), .val (.ref uv), .val (.ref uc), .val (.ref b16), .val (.ref x29), .val (.ref x32), .val (.ref b35), .val (.ref b41), .val (.ref b47), .val (.ref b53), .val (.int r59), .val (.int r62), .val (.int r65), .val (.int r68)] [])) _
      refine XS.iload X68.here hx rfl (hb hby at_236) rfl ?_
      show Steps p.tables e below (T68.setTop (mkF m 238 #[.val (.int p0), .val (.int p1), .val (.int p2), .val (.int p3), .val (.int p4), .val (.ref b1), .val (.ref b4), .val (.int (Int32.ofNat i)), .val (.int (Int32.ofNat j)), .val (.int (Int32.ofNat k)), .val (.ref uu), .val (.ref uv), .val (.ref uc), .val (.ref b16), .val (.ref x29), .val (.ref x32), .val (.ref b35), .val (.ref b41), .val (.ref b47), .val (.ref b53), .val (.int r59), .val (.int r62), .val (.int r65), .val (.int r68)] [(.int r68)])) _
      refine XS.ifNo X68.here hx rfl (hb hby at_238) rfl ((if0 _ _).trans (teq (own_is0 hr68 (fun q => nomatch q.2.2))).2) ?_
      show Steps p.tables e below (T68.setTop (mkF m 241 #[.val (.int p0), .val (.int p1), .val (.int p2), .val (.int p3), .val (.int p4), .val (.ref b1), .val (.ref b4), .val (.int (Int32.ofNat i)), .val (.int (Int32.ofNat j)), .val (.int (Int32.ofNat k)), .val (.ref uu), .val (.ref uv), .val (.ref uc), .val (.ref b16), .val (.ref x29), .val (.ref x32), .val (.ref b35), .val (.ref b41), .val (.ref b47), .val (.ref b53), .val (.int r59), .val (.int r62), .val (.int r65), .val (.int r68)] [])) _
      refine XS.iconst X68.here hx rfl (hb hby at_241) ?_
      show Steps p.tables e below (T68.setTop (mkF m 242 #[.val (.int p0), .val (.int p1), .val (.int p2), .val (.int p3), .val (.int p4), .val (.ref b1), .val (.ref b4), .val (.int (Int32.ofNat i)), .val (.int (Int32.ofNat j)), .val (.int (Int32.ofNat k)), .val (.ref uu), .val (.ref uv), .val (.ref uc), .val (.ref b16), .val (.ref x29), .val (.ref x32), .val (.ref b35), .val (.ref b41), .val (.ref b47), .val (.ref b53), .val (.int r59), .val (.int r62), .val (.int r65), .val (.int r68)] [(.int (1 : Int32))])) _
      refine XS.goto X68.here hx rfl (pc0 := 242) (pc' := 246) rfl (hb hby at_242) (by decide) (by decide) ?_
      exact Steps.refl _)
    obtain ⟨fs, hr, hrun, hended, hW, hsame⟩ := X68.leave (v := some (.int (1 : Int32))) (fun h => by rw [Bd.returns] at h; cases h)
    refine ⟨_, _, c74.trans (retOut X68 hx Bd.returns rfl (Or.inl ⟨rfl, by simp, _, rfl⟩) (hb hby at_246) hr), hrun, hended, _, _, rfl, ?_, ⟨_, rfl⟩, hW, hsame.mono (by decide) (by decide)⟩
    show Q0 Z  h0 n0 _ T68.heap _
    rw [eq68]
    exact ⟨rfl, N68⟩
  · have c75 : Steps p.tables e below S0 (T22.setTop (mkF m 91 #[.val (.int p0), .val (.int p1), .val (.int p2), .val (.int p3), .val (.int p4), .val (.ref b1), .val (.ref b4), .val (.int (Int32.ofNat i)), .val (.int (Int32.ofNat j)), .val (.int (Int32.ofNat k)), .val (.ref uu), .val (.ref uv), .val (.ref uc), .val (.ref b16), .unset, .unset, .unset, .unset, .unset, .unset, .unset, .unset, .unset, .unset] [])) := c24.trans (by
      show Steps p.tables e below (T22.setTop (mkF m 88 #[.val (.int p0), .val (.int p1), .val (.int p2), .val (.int p3), .val (.int p4), .val (.ref b1), .val (.ref b4), .val (.int (Int32.ofNat i)), .val (.int (Int32.ofNat j)), .val (.int (Int32.ofNat k)), .val (.ref uu), .val (.ref uv), .val (.ref uc), .val (.ref b16), .unset, .unset, .unset, .unset, .unset, .unset, .unset, .unset, .unset, .unset] [(.int (p4 &&& (1 : Int32)))])) _
      refine XS.ifNo X22.here hx rfl (hb hby at_88) rfl ((if0 _ _).trans (feq hq25).1) ?_
      exact Steps.refl _)
    obtain ⟨T76, h76, X76, e76, E76, A76, D76, -, st76⟩ := newO X22 hx hZ hown (hw _ (List.mem_of_getElem? (i := 129) rfl)) (hw _ (List.mem_of_getElem? (i := 81) rfl)) (hw _ (List.mem_of_getElem? (i := 73) rfl)) e22 (g := (mkF m 91 #[.val (.int p0), .val (.int p1), .val (.int p2), .val (.int p3), .val (.int p4), .val (.ref b1), .val (.ref b4), .val (.int (Int32.ofNat i)), .val (.int (Int32.ofNat j)), .val (.int (Int32.ofNat k)), .val (.ref uu), .val (.ref uv), .val (.ref uc), .val (.ref b16), .unset, .unset, .unset, .unset, .unset, .unset, .unset, .unset, .unset, .unset] [])) rfl (hb hby at_91) (by decide) (by decide)
    obtain ⟨b76, g76⟩ : ∃ z, z = h22.size := ⟨_, rfl⟩
    rw [← g76] at A76 D76 st76
    have c77 : Steps p.tables e below S0 (T76.setTop (mkF m 94 #[.val (.int p0), .val (.int p1), .val (.int p2), .val (.int p3), .val (.int p4), .val (.ref b1), .val (.ref b4), .val (.int (Int32.ofNat i)), .val (.int (Int32.ofNat j)), .val (.int (Int32.ofNat k)), .val (.ref uu), .val (.ref uv), .val (.ref uc), .val (.ref b16), .unset, .unset, .unset, .unset, .unset, .unset, .unset, .unset, .unset, .unset] [(.ref b76)])) := c75.trans (st76 _ (Steps.refl _))
    have z76 : n0 ≤ h76.size := Nat.le_trans z22 E76.1
    have K76 := K22.ext E76
    have lt_b76 : b76 < h76.size := A76.lt
    have F76_value : Fld Z h76 b76 "java/lang/String" "value" "[B" .null := D76 (Or.inr (hw _ (List.mem_of_getElem? (i := 94) rfl))) (ty := (.array .byte)) (by decide)
    have F76_coder : Fld Z h76 b76 "java/lang/String" "coder" "B" (.int (0 : Int32)) := D76 (Or.inr (hw _ (List.mem_of_getElem? (i := 96) rfl))) (ty := .byte) (by decide)
    have c78 : Steps p.tables e below S0 (T76.setTop (mkF m 97 #[.val (.int p0), .val (.int p1), .val (.int p2), .val (.int p3), .val (.int p4), .val (.ref b1), .val (.ref b4), .val (.int (Int32.ofNat i)), .val (.int (Int32.ofNat j)), .val (.int (Int32.ofNat k)), .val (.ref uu), .val (.ref uv), .val (.ref uc), .val (.ref b16), .unset, .unset, .unset, .unset, .unset, .unset, .unset, .unset, .unset, .unset] [(.ref b16), (.ref b76), (.ref b76)])) := c77.trans (by
      show Steps p.tables e below (T76.setTop (mkF m 94 #[.val (.int p0), .val (.int p1), .val (.int p2), .val (.int p3), .val (.int p4), .val (.ref b1), .val (.ref b4), .val (.int (Int32.ofNat i)), .val (.int (Int32.ofNat j)), .val (.int (Int32.ofNat k)), .val (.ref uu), .val (.ref uv), .val (.ref uc), .val (.ref b16), .unset, .unset, .unset, .unset, .unset, .unset, .unset, .unset, .unset, .unset] [(.ref b76)])) _
      refine XS.dup X76.here hx rfl (hb hby at_94) rfl rfl ?_
      show Steps p.tables e below (T76.setTop (mkF m 95 #[.val (.int p0), .val (.int p1), .val (.int p2), .val (.int p3), .val (.int p4), .val (.ref b1), .val (.ref b4), .val (.int (Int32.ofNat i)), .val (.int (Int32.ofNat j)), .val (.int (Int32.ofNat k)), .val (.ref uu), .val (.ref uv), .val (.ref uc), .val (.ref b16), .unset, .unset, .unset, .unset, .unset, .unset, .unset, .unset, .unset, .unset] [(.ref b76), (.ref b76)])) _
      refine XS.aload X76.here hx rfl (hb hby at_95) rfl rfl ?_
      exact Steps.refl _)
    have hp79 : ∀ c ∈ ([(nar .char ((p3 &&& (255 : Int32)).toUInt32.toUInt16.toUInt32.toInt32)), (nar .char ((((p3.toUInt32 >>> ((8 : Int32) &&& 31).toUInt32).toInt32) &&& (255 : Int32)).toUInt32.toUInt16.toUInt32.toInt32))] : List Int32), ¬ c < 0 ∧ ¬ (255 : Int32) < c := (own_alS (own_c8n (own_c8m p3)) (own_alS (own_c8n (own_c8m ((p3.toUInt32 >>> ((8 : Int32) &&& 31).toUInt32).toInt32))) own_al0))
    have hws79 : ∀ d ∈ StrChars.Road.words, d.before a0 Z = true := fun d hd => hw d (own_in_words d hd)
    obtain ⟨_, _, ⟨T80, L80, kk80, nn80⟩, -, X80, ⟨Lc80, hQ80, l80, y80, z80⟩, st80⟩ := X76.specialBack hx (y := (⟨"java/lang/String", "<init>", "([C)V"⟩ : MethodName)) rfl hown (mvT hZ (hw _ (List.mem_of_getElem? (i := 130) rfl))) (mvT hZ (hw _ (List.mem_of_getElem? (i := 131) rfl))) (mvT hZ (hw _ (List.mem_of_getElem? (i := 132) rfl))) (by decide) (StrChars.Road.backV (W := 1) hZ hws79 (kI := 4) (hw _ (List.mem_of_getElem? (i := 81) rfl)) (cs := ([(nar .char ((p3 &&& (255 : Int32)).toUInt32.toUInt16.toUInt32.toInt32)), (nar .char ((((p3.toUInt32 >>> ((8 : Int32) &&& 31).toUInt32).toInt32) &&& (255 : Int32)).toUInt32.toUInt16.toUInt32.toInt32))] : List Int32)) (bs := (([(nar .char ((p3 &&& (255 : Int32)).toUInt32.toUInt16.toUInt32.toInt32)), (nar .char ((((p3.toUInt32 >>> ((8 : Int32) &&& 31).toUInt32).toInt32) &&& (255 : Int32)).toUInt32.toUInt16.toUInt32.toInt32))] : List Int32)).map (fun c => c.toInt8.toInt32)) (n := 2) (Nat.le_trans Z0 (Nat.le_trans K22.1 (Nat.le_of_eq g76.symm))) z76 A76 F76_value F76_coder (V22.ext E76) (O2.ext ((((((X00.keep Kq1 all0).keep Kq4 all0).ext E16).wr W19 (Nat.le_trans Z0 (Nat.le_trans K4.1 (Nat.le_of_eq g16.symm)))).wr W22 (Nat.le_trans Z0 (Nat.le_trans K4.1 (Nat.le_of_eq g16.symm)))).ext E76).2) P5 rfl rfl (by decide) (by decide) hp79 rfl (by decide) (by decide)) (g := (mkF m 97 #[.val (.int p0), .val (.int p1), .val (.int p2), .val (.int p3), .val (.int p4), .val (.ref b1), .val (.ref b4), .val (.int (Int32.ofNat i)), .val (.int (Int32.ofNat j)), .val (.int (Int32.ofNat k)), .val (.ref uu), .val (.ref uv), .val (.ref uc), .val (.ref b16), .unset, .unset, .unset, .unset, .unset, .unset, .unset, .unset, .unset, .unset] [(.ref b16), (.ref b76), (.ref b76)])) rfl (by rw [hml]; rfl) (Steps.refl _) (a := b76) (argsL := [(.ref b16)]) (rest := [(.ref b76)]) (lenOf pd_oaCcV rfl) rfl (by show 2 * 0 + _ ≤ _; exact Nat.le_of_eq rfl) (hb hby at_97) (fun _ _ => ⟨rfl, e76, (by decide : 4 + 1 ≤ _), (by decide : 33 + 2 ≤ _)⟩)
    dsimp only [Pt.U, Pt.locs, Pt.cells, Pt.slots] at X80 l80 y80 z80 st80 hQ80
    subst l80 y80 z80
    obtain ⟨rfl, Nq80, Kq80, Ex80, Fc80, t80, kb80, ge80, gh80, ne80, Fv80, Va80⟩ := hQ80
    have c81 : Steps p.tables e below S0 (T80.setTop (mkF m 100 #[.val (.int p0), .val (.int p1), .val (.int p2), .val (.int p3), .val (.int p4), .val (.ref b1), .val (.ref b4), .val (.int (Int32.ofNat i)), .val (.int (Int32.ofNat j)), .val (.int (Int32.ofNat k)), .val (.ref uu), .val (.ref uv), .val (.ref uc), .val (.ref b16), .unset, .unset, .unset, .unset, .unset, .unset, .unset, .unset, .unset, .unset] [(.ref b76)])) := c78.trans (st80)
    have N80 := Fr.app N22 Nq80
    have z80 : n0 ≤ T80.heap.size := Nat.le_trans z76 Kq80.1
    have K80 := K76.trans Kq80 (allS (Or.inr (Nat.le_trans K22.1 (Nat.le_of_eq g76.symm))) all0)
    have lt_t80 : t80 < T80.heap.size := Va80.lt
    have hcd80 : StrChars.Road.CodA ([(nar .char ((p3 &&& (255 : Int32)).toUInt32.toUInt16.toUInt32.toInt32)), (nar .char ((((p3.toUInt32 >>> ((8 : Int32) &&& 31).toUInt32).toInt32) &&& (255 : Int32)).toUInt32.toUInt16.toUInt32.toInt32))] : List Int32) 0 (2 : Int32) (((([(nar .char ((p3 &&& (255 : Int32)).toUInt32.toUInt16.toUInt32.toInt32)), (nar .char ((((p3.toUInt32 >>> ((8 : Int32) &&& 31).toUInt32).toInt32) &&& (255 : Int32)).toUInt32.toUInt16.toUInt32.toInt32))] : List Int32)).map (fun c => c.toInt8.toInt32)).map Value.int) := StrChars.Road.codOf (n := 2) rfl (fun c hc => (hp79 c hc).2)
    have c82 : Steps p.tables e below S0 (T80.setTop (mkF m 114 #[.val (.int p0), .val (.int p1), .val (.int p2), .val (.int p3), .val (.int p4), .val (.ref b1), .val (.ref b4), .val (.int (Int32.ofNat i)), .val (.int (Int32.ofNat j)), .val (.int (Int32.ofNat k)), .val (.ref uu), .val (.ref uv), .val (.ref uc), .val (.ref b16), .val (.ref b76), .unset, .unset, .unset, .unset, .unset, .unset, .unset, .unset, .unset] [(.ref uu)])) := c81.trans (by
      show Steps p.tables e below (T80.setTop (mkF m 100 #[.val (.int p0), .val (.int p1), .val (.int p2), .val (.int p3), .val (.int p4), .val (.ref b1), .val (.ref b4), .val (.int (Int32.ofNat i)), .val (.int (Int32.ofNat j)), .val (.int (Int32.ofNat k)), .val (.ref uu), .val (.ref uv), .val (.ref uc), .val (.ref b16), .unset, .unset, .unset, .unset, .unset, .unset, .unset, .unset, .unset, .unset] [(.ref b76)])) _
      refine XS.goto X80.here hx rfl (pc0 := 100) (pc' := 110) rfl (hb hby at_100) (by decide) (by decide) ?_
      show Steps p.tables e below (T80.setTop (mkF m 110 #[.val (.int p0), .val (.int p1), .val (.int p2), .val (.int p3), .val (.int p4), .val (.ref b1), .val (.ref b4), .val (.int (Int32.ofNat i)), .val (.int (Int32.ofNat j)), .val (.int (Int32.ofNat k)), .val (.ref uu), .val (.ref uv), .val (.ref uc), .val (.ref b16), .unset, .unset, .unset, .unset, .unset, .unset, .unset, .unset, .unset, .unset] [(.ref b76)])) _
      refine XS.astore X80.here hx rfl (hb hby at_110) rfl rfl (l' := #[.val (.int p0), .val (.int p1), .val (.int p2), .val (.int p3), .val (.int p4), .val (.ref b1), .val (.ref b4), .val (.int (Int32.ofNat i)), .val (.int (Int32.ofNat j)), .val (.int (Int32.ofNat k)), .val (.ref uu), .val (.ref uv), .val (.ref uc), .val (.ref b16), .val (.ref b76), .unset, .unset, .unset, .unset, .unset, .unset, .unset, .unset, .unset]) rfl ?_
      show Steps p.tables e below (T80.setTop (mkF m 112 #[.val (.int p0), .val (.int p1), .val (.int p2), .val (.int p3), .val (.int p4), .val (.ref b1), .val (.ref b4), .val (.int (Int32.ofNat i)), .val (.int (Int32.ofNat j)), .val (.int (Int32.ofNat k)), .val (.ref uu), .val (.ref uv), .val (.ref uc), .val (.ref b16), .val (.ref b76), .unset, .unset, .unset, .unset, .unset, .unset, .unset, .unset, .unset] [])) _
      refine XS.aload X80.here hx rfl (hb hby at_112) rfl rfl ?_
      exact Steps.refl _)
    obtain ⟨_, _, ⟨T83, L83, kk83, nn83⟩, -, X83, ⟨Lc83, hQ83, l83, y83, z83⟩, st83⟩ := Jvm.LawKit.callS X80 hx (y := (⟨"com/example/cabin_audio_policy/cabinaudiopolicy/AudioAttributes", "of", "(Lcom/example/cabin_audio_policy/cabinaudiopolicy/AudioUsage;)Lcom/example/cabin_audio_policy/cabinaudiopolicy/AudioAttributes;"⟩ : MethodName)) hown (mvT hZ (hw _ (List.mem_of_getElem? (i := 97) rfl))) (mvT hZ (hw _ (List.mem_of_getElem? (i := 98) rfl))) (mvT hZ (hw _ (List.mem_of_getElem? (i := 99) rfl))) (mvT hZ (hw _ (List.mem_of_getElem? (i := 100) rfl))) (by decide) (backOf (W := 0) (rmOf l Z a0 hw [] uu T80.heap n0 z80 ((((((((xuu.ext X00.2).keep Kq1).keep Kq4).ext E16).wr W19).wr W22).ext E76).keep Kq80)) hZ (hw _ (List.mem_of_getElem? (i := 100) rfl)) (hw _ (List.mem_of_getElem? (i := 99) rfl)) (by decide) (by decide)) (g := (mkF m 114 #[.val (.int p0), .val (.int p1), .val (.int p2), .val (.int p3), .val (.int p4), .val (.ref b1), .val (.ref b4), .val (.int (Int32.ofNat i)), .val (.int (Int32.ofNat j)), .val (.int (Int32.ofNat k)), .val (.ref uu), .val (.ref uv), .val (.ref uc), .val (.ref b16), .val (.ref b76), .unset, .unset, .unset, .unset, .unset, .unset, .unset, .unset, .unset] [(.ref uu)])) rfl (by rw [hml]; rfl) (argsL := [(.ref uu)]) (rest := []) (lenOf pd_oLcomsexamplescabin_audio_policyscabinaudiopolicysAudioUsageecLcomsexamplescabin_audio_policyscabinaudiopolicysAudioAttributese rfl) rfl (by show 2 * 0 + _ ≤ _; exact Nat.le_of_eq rfl) (hb hby at_114) (fun _ _ => ⟨rfl, rfl, (by decide : 5 + 1 ≤ _), (by decide : 35 + 3 ≤ _)⟩)
    dsimp only [Pt.U, Pt.locs, Pt.cells, Pt.slots] at X83 l83 y83 z83 st83 hQ83
    subst l83 y83 z83
    obtain ⟨x83, rfl, Nq83, Kq83, gx83, Ei83, Fu83, Ft83, Fg83⟩ := hQ83
    have c84 : Steps p.tables e below S0 (T83.setTop (mkF m 117 #[.val (.int p0), .val (.int p1), .val (.int p2), .val (.int p3), .val (.int p4), .val (.ref b1), .val (.ref b4), .val (.int (Int32.ofNat i)), .val (.int (Int32.ofNat j)), .val (.int (Int32.ofNat k)), .val (.ref uu), .val (.ref uv), .val (.ref uc), .val (.ref b16), .val (.ref b76), .unset, .unset, .unset, .unset, .unset, .unset, .unset, .unset, .unset] [(.ref x83)])) := c82.trans (st83 _ (Steps.refl _))
    have N83 := Fr.app N80 Nq83
    have z83 : n0 ≤ T83.heap.size := Nat.le_trans z80 Kq83.1
    have K83 := K80.trans Kq83 all0
    have lt_x83 := Ei83.lt
    have c85 : Steps p.tables e below S0 (T83.setTop (mkF m 119 #[.val (.int p0), .val (.int p1), .val (.int p2), .val (.int p3), .val (.int p4), .val (.ref b1), .val (.ref b4), .val (.int (Int32.ofNat i)), .val (.int (Int32.ofNat j)), .val (.int (Int32.ofNat k)), .val (.ref uu), .val (.ref uv), .val (.ref uc), .val (.ref b16), .val (.ref b76), .val (.ref x83), .unset, .unset, .unset, .unset, .unset, .unset, .unset, .unset] [])) := c84.trans (by
      show Steps p.tables e below (T83.setTop (mkF m 117 #[.val (.int p0), .val (.int p1), .val (.int p2), .val (.int p3), .val (.int p4), .val (.ref b1), .val (.ref b4), .val (.int (Int32.ofNat i)), .val (.int (Int32.ofNat j)), .val (.int (Int32.ofNat k)), .val (.ref uu), .val (.ref uv), .val (.ref uc), .val (.ref b16), .val (.ref b76), .unset, .unset, .unset, .unset, .unset, .unset, .unset, .unset, .unset] [(.ref x83)])) _
      refine XS.astore X83.here hx rfl (hb hby at_117) rfl rfl (l' := #[.val (.int p0), .val (.int p1), .val (.int p2), .val (.int p3), .val (.int p4), .val (.ref b1), .val (.ref b4), .val (.int (Int32.ofNat i)), .val (.int (Int32.ofNat j)), .val (.int (Int32.ofNat k)), .val (.ref uu), .val (.ref uv), .val (.ref uc), .val (.ref b16), .val (.ref b76), .val (.ref x83), .unset, .unset, .unset, .unset, .unset, .unset, .unset, .unset]) rfl ?_
      exact Steps.refl _)
    obtain ⟨T86, h86, X86, e86, E86, A86, D86, -, st86⟩ := newO X83 hx hZ hown (hw _ (List.mem_of_getElem? (i := 118) rfl)) (hw _ (List.mem_of_getElem? (i := 102) rfl)) (hw _ (List.mem_of_getElem? (i := 99) rfl)) rfl (g := (mkF m 119 #[.val (.int p0), .val (.int p1), .val (.int p2), .val (.int p3), .val (.int p4), .val (.ref b1), .val (.ref b4), .val (.int (Int32.ofNat i)), .val (.int (Int32.ofNat j)), .val (.int (Int32.ofNat k)), .val (.ref uu), .val (.ref uv), .val (.ref uc), .val (.ref b16), .val (.ref b76), .val (.ref x83), .unset, .unset, .unset, .unset, .unset, .unset, .unset, .unset] [])) rfl (hb hby at_119) (by decide) (by decide)
    obtain ⟨b86, g86⟩ : ∃ z, z = T83.heap.size := ⟨_, rfl⟩
    rw [← g86] at A86 D86 st86
    have c87 : Steps p.tables e below S0 (T86.setTop (mkF m 122 #[.val (.int p0), .val (.int p1), .val (.int p2), .val (.int p3), .val (.int p4), .val (.ref b1), .val (.ref b4), .val (.int (Int32.ofNat i)), .val (.int (Int32.ofNat j)), .val (.int (Int32.ofNat k)), .val (.ref uu), .val (.ref uv), .val (.ref uc), .val (.ref b16), .val (.ref b76), .val (.ref x83), .unset, .unset, .unset, .unset, .unset, .unset, .unset, .unset] [(.ref b86)])) := c85.trans (st86 _ (Steps.refl _))
    have z86 : n0 ≤ h86.size := Nat.le_trans z83 E86.1
    have K86 := K83.ext E86
    have lt_b86 : b86 < h86.size := A86.lt
    have F86_usage : Fld Z h86 b86 "com/example/cabin_audio_policy/cabinaudiopolicy/AudioAttributes" "usage" "Lcom/example/cabin_audio_policy/cabinaudiopolicy/AudioUsage;" .null := D86 (Or.inr (hw _ (List.mem_of_getElem? (i := 113) rfl))) (ty := (.object "com/example/cabin_audio_policy/cabinaudiopolicy/AudioUsage")) (by decide)
    have F86_contentType : Fld Z h86 b86 "com/example/cabin_audio_policy/cabinaudiopolicy/AudioAttributes" "contentType" "Lcom/example/cabin_audio_policy/cabinaudiopolicy/AudioContentType;" .null := D86 (Or.inr (hw _ (List.mem_of_getElem? (i := 115) rfl))) (ty := (.object "com/example/cabin_audio_policy/cabinaudiopolicy/AudioContentType")) (by decide)
    have F86_tags : Fld Z h86 b86 "com/example/cabin_audio_policy/cabinaudiopolicy/AudioAttributes" "tags" "Ljava/lang/String;" .null := D86 (Or.inr (hw _ (List.mem_of_getElem? (i := 117) rfl))) (ty := (.object "java/lang/String")) (by decide)
    have c88 : Steps p.tables e below S0 (T86.setTop (mkF m 127 #[.val (.int p0), .val (.int p1), .val (.int p2), .val (.int p3), .val (.int p4), .val (.ref b1), .val (.ref b4), .val (.int (Int32.ofNat i)), .val (.int (Int32.ofNat j)), .val (.int (Int32.ofNat k)), .val (.ref uu), .val (.ref uv), .val (.ref uc), .val (.ref b16), .val (.ref b76), .val (.ref x83), .unset, .unset, .unset, .unset, .unset, .unset, .unset, .unset] [.null, .null, (.ref uu), (.ref b86), (.ref b86)])) := c87.trans (by
      show Steps p.tables e below (T86.setTop (mkF m 122 #[.val (.int p0), .val (.int p1), .val (.int p2), .val (.int p3), .val (.int p4), .val (.ref b1), .val (.ref b4), .val (.int (Int32.ofNat i)), .val (.int (Int32.ofNat j)), .val (.int (Int32.ofNat k)), .val (.ref uu), .val (.ref uv), .val (.ref uc), .val (.ref b16), .val (.ref b76), .val (.ref x83), .unset, .unset, .unset, .unset, .unset, .unset, .unset, .unset] [(.ref b86)])) _
      refine XS.dup X86.here hx rfl (hb hby at_122) rfl rfl ?_
      show Steps p.tables e below (T86.setTop (mkF m 123 #[.val (.int p0), .val (.int p1), .val (.int p2), .val (.int p3), .val (.int p4), .val (.ref b1), .val (.ref b4), .val (.int (Int32.ofNat i)), .val (.int (Int32.ofNat j)), .val (.int (Int32.ofNat k)), .val (.ref uu), .val (.ref uv), .val (.ref uc), .val (.ref b16), .val (.ref b76), .val (.ref x83), .unset, .unset, .unset, .unset, .unset, .unset, .unset, .unset] [(.ref b86), (.ref b86)])) _
      refine XS.aload X86.here hx rfl (hb hby at_123) rfl rfl ?_
      show Steps p.tables e below (T86.setTop (mkF m 125 #[.val (.int p0), .val (.int p1), .val (.int p2), .val (.int p3), .val (.int p4), .val (.ref b1), .val (.ref b4), .val (.int (Int32.ofNat i)), .val (.int (Int32.ofNat j)), .val (.int (Int32.ofNat k)), .val (.ref uu), .val (.ref uv), .val (.ref uc), .val (.ref b16), .val (.ref b76), .val (.ref x83), .unset, .unset, .unset, .unset, .unset, .unset, .unset, .unset] [(.ref uu), (.ref b86), (.ref b86)])) _
      refine XS.aconstNull X86.here hx rfl (hb hby at_125) ?_
      show Steps p.tables e below (T86.setTop (mkF m 126 #[.val (.int p0), .val (.int p1), .val (.int p2), .val (.int p3), .val (.int p4), .val (.ref b1), .val (.ref b4), .val (.int (Int32.ofNat i)), .val (.int (Int32.ofNat j)), .val (.int (Int32.ofNat k)), .val (.ref uu), .val (.ref uv), .val (.ref uc), .val (.ref b16), .val (.ref b76), .val (.ref x83), .unset, .unset, .unset, .unset, .unset, .unset, .unset, .unset] [.null, (.ref uu), (.ref b86), (.ref b86)])) _
      refine XS.aconstNull X86.here hx rfl (hb hby at_126) ?_
      exact Steps.refl _)
    obtain ⟨_, _, ⟨T89, L89, kk89, nn89⟩, -, X89, ⟨Lc89, hQ89, l89, y89, z89⟩, st89⟩ := X86.specialBack hx (y := (⟨"com/example/cabin_audio_policy/cabinaudiopolicy/AudioAttributes", "<init>", "(Lcom/example/cabin_audio_policy/cabinaudiopolicy/AudioUsage;Lcom/example/cabin_audio_policy/cabinaudiopolicy/AudioContentType;Ljava/lang/String;)V"⟩ : MethodName)) rfl hown (mvT hZ (hw _ (List.mem_of_getElem? (i := 119) rfl))) (mvT hZ (hw _ (List.mem_of_getElem? (i := 109) rfl))) (mvT hZ (hw _ (List.mem_of_getElem? (i := 110) rfl))) (by decide) (backOf (W := 1) (rmIni l Z a0 hw [] b86 uu .null .null h86 n0 z86 rfl rfl (Nat.le_trans Z0 (Nat.le_trans K83.1 (Nat.le_of_eq g86.symm))) A86 F86_usage F86_contentType F86_tags) hZ (hw _ (List.mem_of_getElem? (i := 110) rfl)) (hw _ (List.mem_of_getElem? (i := 99) rfl)) (by decide) (by decide)) (g := (mkF m 127 #[.val (.int p0), .val (.int p1), .val (.int p2), .val (.int p3), .val (.int p4), .val (.ref b1), .val (.ref b4), .val (.int (Int32.ofNat i)), .val (.int (Int32.ofNat j)), .val (.int (Int32.ofNat k)), .val (.ref uu), .val (.ref uv), .val (.ref uc), .val (.ref b16), .val (.ref b76), .val (.ref x83), .unset, .unset, .unset, .unset, .unset, .unset, .unset, .unset] [.null, .null, (.ref uu), (.ref b86), (.ref b86)])) rfl (by rw [hml]; rfl) (Steps.refl _) (a := b86) (argsL := [(.ref uu), .null, .null]) (rest := [(.ref b86)]) (lenOf pd_oLcomsexamplescabin_audio_policyscabinaudiopolicysAudioUsageeLcomsexamplescabin_audio_policyscabinaudiopolicysAudioContentTypeeLjavaslangsStringecV rfl) rfl (by show 2 * 0 + _ ≤ _; exact Nat.le_of_eq rfl) (hb hby at_127) (fun _ _ => ⟨rfl, e86, (by decide : 7 + 0 ≤ _), (by decide : 41 + 0 ≤ _)⟩)
    dsimp only [Pt.U, Pt.locs, Pt.cells, Pt.slots] at X89 l89 y89 z89 st89 hQ89
    subst l89 y89 z89
    obtain ⟨rfl, Nq89, Kq89, Ei89, Fu89, Ft89, Fg89⟩ := hQ89
    have c90 : Steps p.tables e below S0 (T89.setTop (mkF m 130 #[.val (.int p0), .val (.int p1), .val (.int p2), .val (.int p3), .val (.int p4), .val (.ref b1), .val (.ref b4), .val (.int (Int32.ofNat i)), .val (.int (Int32.ofNat j)), .val (.int (Int32.ofNat k)), .val (.ref uu), .val (.ref uv), .val (.ref uc), .val (.ref b16), .val (.ref b76), .val (.ref x83), .unset, .unset, .unset, .unset, .unset, .unset, .unset, .unset] [(.ref b86)])) := c88.trans (st89)
    have N89 := Fr.app N83 Nq89
    have z89 : n0 ≤ T89.heap.size := Nat.le_trans z86 Kq89.1
    have K89 := K86.trans Kq89 (allS (Or.inr (Nat.le_trans K83.1 (Nat.le_of_eq g86.symm))) all0)
    have c91 : Steps p.tables e below S0 (T89.setTop (mkF m 132 #[.val (.int p0), .val (.int p1), .val (.int p2), .val (.int p3), .val (.int p4), .val (.ref b1), .val (.ref b4), .val (.int (Int32.ofNat i)), .val (.int (Int32.ofNat j)), .val (.int (Int32.ofNat k)), .val (.ref uu), .val (.ref uv), .val (.ref uc), .val (.ref b16), .val (.ref b76), .val (.ref x83), .val (.ref b86), .unset, .unset, .unset, .unset, .unset, .unset, .unset] [])) := c90.trans (by
      show Steps p.tables e below (T89.setTop (mkF m 130 #[.val (.int p0), .val (.int p1), .val (.int p2), .val (.int p3), .val (.int p4), .val (.ref b1), .val (.ref b4), .val (.int (Int32.ofNat i)), .val (.int (Int32.ofNat j)), .val (.int (Int32.ofNat k)), .val (.ref uu), .val (.ref uv), .val (.ref uc), .val (.ref b16), .val (.ref b76), .val (.ref x83), .unset, .unset, .unset, .unset, .unset, .unset, .unset, .unset] [(.ref b86)])) _
      refine XS.astore X89.here hx rfl (hb hby at_130) rfl rfl (l' := #[.val (.int p0), .val (.int p1), .val (.int p2), .val (.int p3), .val (.int p4), .val (.ref b1), .val (.ref b4), .val (.int (Int32.ofNat i)), .val (.int (Int32.ofNat j)), .val (.int (Int32.ofNat k)), .val (.ref uu), .val (.ref uv), .val (.ref uc), .val (.ref b16), .val (.ref b76), .val (.ref x83), .val (.ref b86), .unset, .unset, .unset, .unset, .unset, .unset, .unset]) rfl ?_
      exact Steps.refl _)
    obtain ⟨T92, h92, X92, e92, E92, A92, D92, -, st92⟩ := newO X89 hx hZ hown (hw _ (List.mem_of_getElem? (i := 118) rfl)) (hw _ (List.mem_of_getElem? (i := 102) rfl)) (hw _ (List.mem_of_getElem? (i := 99) rfl)) rfl (g := (mkF m 132 #[.val (.int p0), .val (.int p1), .val (.int p2), .val (.int p3), .val (.int p4), .val (.ref b1), .val (.ref b4), .val (.int (Int32.ofNat i)), .val (.int (Int32.ofNat j)), .val (.int (Int32.ofNat k)), .val (.ref uu), .val (.ref uv), .val (.ref uc), .val (.ref b16), .val (.ref b76), .val (.ref x83), .val (.ref b86), .unset, .unset, .unset, .unset, .unset, .unset, .unset] [])) rfl (hb hby at_132) (by decide) (by decide)
    obtain ⟨b92, g92⟩ : ∃ z, z = T89.heap.size := ⟨_, rfl⟩
    rw [← g92] at A92 D92 st92
    have c93 : Steps p.tables e below S0 (T92.setTop (mkF m 135 #[.val (.int p0), .val (.int p1), .val (.int p2), .val (.int p3), .val (.int p4), .val (.ref b1), .val (.ref b4), .val (.int (Int32.ofNat i)), .val (.int (Int32.ofNat j)), .val (.int (Int32.ofNat k)), .val (.ref uu), .val (.ref uv), .val (.ref uc), .val (.ref b16), .val (.ref b76), .val (.ref x83), .val (.ref b86), .unset, .unset, .unset, .unset, .unset, .unset, .unset] [(.ref b92)])) := c91.trans (st92 _ (Steps.refl _))
    have z92 : n0 ≤ h92.size := Nat.le_trans z89 E92.1
    have K92 := K89.ext E92
    have lt_b92 : b92 < h92.size := A92.lt
    have F92_usage : Fld Z h92 b92 "com/example/cabin_audio_policy/cabinaudiopolicy/AudioAttributes" "usage" "Lcom/example/cabin_audio_policy/cabinaudiopolicy/AudioUsage;" .null := D92 (Or.inr (hw _ (List.mem_of_getElem? (i := 113) rfl))) (ty := (.object "com/example/cabin_audio_policy/cabinaudiopolicy/AudioUsage")) (by decide)
    have F92_contentType : Fld Z h92 b92 "com/example/cabin_audio_policy/cabinaudiopolicy/AudioAttributes" "contentType" "Lcom/example/cabin_audio_policy/cabinaudiopolicy/AudioContentType;" .null := D92 (Or.inr (hw _ (List.mem_of_getElem? (i := 115) rfl))) (ty := (.object "com/example/cabin_audio_policy/cabinaudiopolicy/AudioContentType")) (by decide)
    have F92_tags : Fld Z h92 b92 "com/example/cabin_audio_policy/cabinaudiopolicy/AudioAttributes" "tags" "Ljava/lang/String;" .null := D92 (Or.inr (hw _ (List.mem_of_getElem? (i := 117) rfl))) (ty := (.object "java/lang/String")) (by decide)
    have c94 : Steps p.tables e below S0 (T92.setTop (mkF m 140 #[.val (.int p0), .val (.int p1), .val (.int p2), .val (.int p3), .val (.int p4), .val (.ref b1), .val (.ref b4), .val (.int (Int32.ofNat i)), .val (.int (Int32.ofNat j)), .val (.int (Int32.ofNat k)), .val (.ref uu), .val (.ref uv), .val (.ref uc), .val (.ref b16), .val (.ref b76), .val (.ref x83), .val (.ref b86), .unset, .unset, .unset, .unset, .unset, .unset, .unset] [.null, .null, (.ref uv), (.ref b92), (.ref b92)])) := c93.trans (by
      show Steps p.tables e below (T92.setTop (mkF m 135 #[.val (.int p0), .val (.int p1), .val (.int p2), .val (.int p3), .val (.int p4), .val (.ref b1), .val (.ref b4), .val (.int (Int32.ofNat i)), .val (.int (Int32.ofNat j)), .val (.int (Int32.ofNat k)), .val (.ref uu), .val (.ref uv), .val (.ref uc), .val (.ref b16), .val (.ref b76), .val (.ref x83), .val (.ref b86), .unset, .unset, .unset, .unset, .unset, .unset, .unset] [(.ref b92)])) _
      refine XS.dup X92.here hx rfl (hb hby at_135) rfl rfl ?_
      show Steps p.tables e below (T92.setTop (mkF m 136 #[.val (.int p0), .val (.int p1), .val (.int p2), .val (.int p3), .val (.int p4), .val (.ref b1), .val (.ref b4), .val (.int (Int32.ofNat i)), .val (.int (Int32.ofNat j)), .val (.int (Int32.ofNat k)), .val (.ref uu), .val (.ref uv), .val (.ref uc), .val (.ref b16), .val (.ref b76), .val (.ref x83), .val (.ref b86), .unset, .unset, .unset, .unset, .unset, .unset, .unset] [(.ref b92), (.ref b92)])) _
      refine XS.aload X92.here hx rfl (hb hby at_136) rfl rfl ?_
      show Steps p.tables e below (T92.setTop (mkF m 138 #[.val (.int p0), .val (.int p1), .val (.int p2), .val (.int p3), .val (.int p4), .val (.ref b1), .val (.ref b4), .val (.int (Int32.ofNat i)), .val (.int (Int32.ofNat j)), .val (.int (Int32.ofNat k)), .val (.ref uu), .val (.ref uv), .val (.ref uc), .val (.ref b16), .val (.ref b76), .val (.ref x83), .val (.ref b86), .unset, .unset, .unset, .unset, .unset, .unset, .unset] [(.ref uv), (.ref b92), (.ref b92)])) _
      refine XS.aconstNull X92.here hx rfl (hb hby at_138) ?_
      show Steps p.tables e below (T92.setTop (mkF m 139 #[.val (.int p0), .val (.int p1), .val (.int p2), .val (.int p3), .val (.int p4), .val (.ref b1), .val (.ref b4), .val (.int (Int32.ofNat i)), .val (.int (Int32.ofNat j)), .val (.int (Int32.ofNat k)), .val (.ref uu), .val (.ref uv), .val (.ref uc), .val (.ref b16), .val (.ref b76), .val (.ref x83), .val (.ref b86), .unset, .unset, .unset, .unset, .unset, .unset, .unset] [.null, (.ref uv), (.ref b92), (.ref b92)])) _
      refine XS.aconstNull X92.here hx rfl (hb hby at_139) ?_
      exact Steps.refl _)
    obtain ⟨_, _, ⟨T95, L95, kk95, nn95⟩, -, X95, ⟨Lc95, hQ95, l95, y95, z95⟩, st95⟩ := X92.specialBack hx (y := (⟨"com/example/cabin_audio_policy/cabinaudiopolicy/AudioAttributes", "<init>", "(Lcom/example/cabin_audio_policy/cabinaudiopolicy/AudioUsage;Lcom/example/cabin_audio_policy/cabinaudiopolicy/AudioContentType;Ljava/lang/String;)V"⟩ : MethodName)) rfl hown (mvT hZ (hw _ (List.mem_of_getElem? (i := 119) rfl))) (mvT hZ (hw _ (List.mem_of_getElem? (i := 109) rfl))) (mvT hZ (hw _ (List.mem_of_getElem? (i := 110) rfl))) (by decide) (backOf (W := 1) (rmIni l Z a0 hw [] b92 uv .null .null h92 n0 z92 rfl rfl (Nat.le_trans Z0 (Nat.le_trans K89.1 (Nat.le_of_eq g92.symm))) A92 F92_usage F92_contentType F92_tags) hZ (hw _ (List.mem_of_getElem? (i := 110) rfl)) (hw _ (List.mem_of_getElem? (i := 99) rfl)) (by decide) (by decide)) (g := (mkF m 140 #[.val (.int p0), .val (.int p1), .val (.int p2), .val (.int p3), .val (.int p4), .val (.ref b1), .val (.ref b4), .val (.int (Int32.ofNat i)), .val (.int (Int32.ofNat j)), .val (.int (Int32.ofNat k)), .val (.ref uu), .val (.ref uv), .val (.ref uc), .val (.ref b16), .val (.ref b76), .val (.ref x83), .val (.ref b86), .unset, .unset, .unset, .unset, .unset, .unset, .unset] [.null, .null, (.ref uv), (.ref b92), (.ref b92)])) rfl (by rw [hml]; rfl) (Steps.refl _) (a := b92) (argsL := [(.ref uv), .null, .null]) (rest := [(.ref b92)]) (lenOf pd_oLcomsexamplescabin_audio_policyscabinaudiopolicysAudioUsageeLcomsexamplescabin_audio_policyscabinaudiopolicysAudioContentTypeeLjavaslangsStringecV rfl) rfl (by show 2 * 0 + _ ≤ _; exact Nat.le_of_eq rfl) (hb hby at_140) (fun _ _ => ⟨rfl, e92, (by decide : 8 + 0 ≤ _), (by decide : 44 + 0 ≤ _)⟩)
    dsimp only [Pt.U, Pt.locs, Pt.cells, Pt.slots] at X95 l95 y95 z95 st95 hQ95
    subst l95 y95 z95
    obtain ⟨rfl, Nq95, Kq95, Ei95, Fu95, Ft95, Fg95⟩ := hQ95
    have c96 : Steps p.tables e below S0 (T95.setTop (mkF m 143 #[.val (.int p0), .val (.int p1), .val (.int p2), .val (.int p3), .val (.int p4), .val (.ref b1), .val (.ref b4), .val (.int (Int32.ofNat i)), .val (.int (Int32.ofNat j)), .val (.int (Int32.ofNat k)), .val (.ref uu), .val (.ref uv), .val (.ref uc), .val (.ref b16), .val (.ref b76), .val (.ref x83), .val (.ref b86), .unset, .unset, .unset, .unset, .unset, .unset, .unset] [(.ref b92)])) := c94.trans (st95)
    have N95 := Fr.app N89 Nq95
    have z95 : n0 ≤ T95.heap.size := Nat.le_trans z92 Kq95.1
    have K95 := K92.trans Kq95 (allS (Or.inr (Nat.le_trans K89.1 (Nat.le_of_eq g92.symm))) all0)
    have c97 : Steps p.tables e below S0 (T95.setTop (mkF m 145 #[.val (.int p0), .val (.int p1), .val (.int p2), .val (.int p3), .val (.int p4), .val (.ref b1), .val (.ref b4), .val (.int (Int32.ofNat i)), .val (.int (Int32.ofNat j)), .val (.int (Int32.ofNat k)), .val (.ref uu), .val (.ref uv), .val (.ref uc), .val (.ref b16), .val (.ref b76), .val (.ref x83), .val (.ref b86), .val (.ref b92), .unset, .unset, .unset, .unset, .unset, .unset] [])) := c96.trans (by
      show Steps p.tables e below (T95.setTop (mkF m 143 #[.val (.int p0), .val (.int p1), .val (.int p2), .val (.int p3), .val (.int p4), .val (.ref b1), .val (.ref b4), .val (.int (Int32.ofNat i)), .val (.int (Int32.ofNat j)), .val (.int (Int32.ofNat k)), .val (.ref uu), .val (.ref uv), .val (.ref uc), .val (.ref b16), .val (.ref b76), .val (.ref x83), .val (.ref b86), .unset, .unset, .unset, .unset, .unset, .unset, .unset] [(.ref b92)])) _
      refine XS.astore X95.here hx rfl (hb hby at_143) rfl rfl (l' := #[.val (.int p0), .val (.int p1), .val (.int p2), .val (.int p3), .val (.int p4), .val (.ref b1), .val (.ref b4), .val (.int (Int32.ofNat i)), .val (.int (Int32.ofNat j)), .val (.int (Int32.ofNat k)), .val (.ref uu), .val (.ref uv), .val (.ref uc), .val (.ref b16), .val (.ref b76), .val (.ref x83), .val (.ref b86), .val (.ref b92), .unset, .unset, .unset, .unset, .unset, .unset]) rfl ?_
      exact Steps.refl _)
    obtain ⟨T98, h98, X98, e98, E98, A98, D98, -, st98⟩ := newO X95 hx hZ hown (hw _ (List.mem_of_getElem? (i := 118) rfl)) (hw _ (List.mem_of_getElem? (i := 102) rfl)) (hw _ (List.mem_of_getElem? (i := 99) rfl)) rfl (g := (mkF m 145 #[.val (.int p0), .val (.int p1), .val (.int p2), .val (.int p3), .val (.int p4), .val (.ref b1), .val (.ref b4), .val (.int (Int32.ofNat i)), .val (.int (Int32.ofNat j)), .val (.int (Int32.ofNat k)), .val (.ref uu), .val (.ref uv), .val (.ref uc), .val (.ref b16), .val (.ref b76), .val (.ref x83), .val (.ref b86), .val (.ref b92), .unset, .unset, .unset, .unset, .unset, .unset] [])) rfl (hb hby at_145) (by decide) (by decide)
    obtain ⟨b98, g98⟩ : ∃ z, z = T95.heap.size := ⟨_, rfl⟩
    rw [← g98] at A98 D98 st98
    have c99 : Steps p.tables e below S0 (T98.setTop (mkF m 148 #[.val (.int p0), .val (.int p1), .val (.int p2), .val (.int p3), .val (.int p4), .val (.ref b1), .val (.ref b4), .val (.int (Int32.ofNat i)), .val (.int (Int32.ofNat j)), .val (.int (Int32.ofNat k)), .val (.ref uu), .val (.ref uv), .val (.ref uc), .val (.ref b16), .val (.ref b76), .val (.ref x83), .val (.ref b86), .val (.ref b92), .unset, .unset, .unset, .unset, .unset, .unset] [(.ref b98)])) := c97.trans (st98 _ (Steps.refl _))
    have z98 : n0 ≤ h98.size := Nat.le_trans z95 E98.1
    have K98 := K95.ext E98
    have lt_b98 : b98 < h98.size := A98.lt
    have F98_usage : Fld Z h98 b98 "com/example/cabin_audio_policy/cabinaudiopolicy/AudioAttributes" "usage" "Lcom/example/cabin_audio_policy/cabinaudiopolicy/AudioUsage;" .null := D98 (Or.inr (hw _ (List.mem_of_getElem? (i := 113) rfl))) (ty := (.object "com/example/cabin_audio_policy/cabinaudiopolicy/AudioUsage")) (by decide)
    have F98_contentType : Fld Z h98 b98 "com/example/cabin_audio_policy/cabinaudiopolicy/AudioAttributes" "contentType" "Lcom/example/cabin_audio_policy/cabinaudiopolicy/AudioContentType;" .null := D98 (Or.inr (hw _ (List.mem_of_getElem? (i := 115) rfl))) (ty := (.object "com/example/cabin_audio_policy/cabinaudiopolicy/AudioContentType")) (by decide)
    have F98_tags : Fld Z h98 b98 "com/example/cabin_audio_policy/cabinaudiopolicy/AudioAttributes" "tags" "Ljava/lang/String;" .null := D98 (Or.inr (hw _ (List.mem_of_getElem? (i := 117) rfl))) (ty := (.object "java/lang/String")) (by decide)
    have c100 : Steps p.tables e below S0 (T98.setTop (mkF m 154 #[.val (.int p0), .val (.int p1), .val (.int p2), .val (.int p3), .val (.int p4), .val (.ref b1), .val (.ref b4), .val (.int (Int32.ofNat i)), .val (.int (Int32.ofNat j)), .val (.int (Int32.ofNat k)), .val (.ref uu), .val (.ref uv), .val (.ref uc), .val (.ref b16), .val (.ref b76), .val (.ref x83), .val (.ref b86), .val (.ref b92), .unset, .unset, .unset, .unset, .unset, .unset] [.null, (.ref uc), (.ref uu), (.ref b98), (.ref b98)])) := c99.trans (by
      show Steps p.tables e below (T98.setTop (mkF m 148 #[.val (.int p0), .val (.int p1), .val (.int p2), .val (.int p3), .val (.int p4), .val (.ref b1), .val (.ref b4), .val (.int (Int32.ofNat i)), .val (.int (Int32.ofNat j)), .val (.int (Int32.ofNat k)), .val (.ref uu), .val (.ref uv), .val (.ref uc), .val (.ref b16), .val (.ref b76), .val (.ref x83), .val (.ref b86), .val (.ref b92), .unset, .unset, .unset, .unset, .unset, .unset] [(.ref b98)])) _
      refine XS.dup X98.here hx rfl (hb hby at_148) rfl rfl ?_
      show Steps p.tables e below (T98.setTop (mkF m 149 #[.val (.int p0), .val (.int p1), .val (.int p2), .val (.int p3), .val (.int p4), .val (.ref b1), .val (.ref b4), .val (.int (Int32.ofNat i)), .val (.int (Int32.ofNat j)), .val (.int (Int32.ofNat k)), .val (.ref uu), .val (.ref uv), .val (.ref uc), .val (.ref b16), .val (.ref b76), .val (.ref x83), .val (.ref b86), .val (.ref b92), .unset, .unset, .unset, .unset, .unset, .unset] [(.ref b98), (.ref b98)])) _
      refine XS.aload X98.here hx rfl (hb hby at_149) rfl rfl ?_
      show Steps p.tables e below (T98.setTop (mkF m 151 #[.val (.int p0), .val (.int p1), .val (.int p2), .val (.int p3), .val (.int p4), .val (.ref b1), .val (.ref b4), .val (.int (Int32.ofNat i)), .val (.int (Int32.ofNat j)), .val (.int (Int32.ofNat k)), .val (.ref uu), .val (.ref uv), .val (.ref uc), .val (.ref b16), .val (.ref b76), .val (.ref x83), .val (.ref b86), .val (.ref b92), .unset, .unset, .unset, .unset, .unset, .unset] [(.ref uu), (.ref b98), (.ref b98)])) _
      refine XS.aload X98.here hx rfl (hb hby at_151) rfl rfl ?_
      show Steps p.tables e below (T98.setTop (mkF m 153 #[.val (.int p0), .val (.int p1), .val (.int p2), .val (.int p3), .val (.int p4), .val (.ref b1), .val (.ref b4), .val (.int (Int32.ofNat i)), .val (.int (Int32.ofNat j)), .val (.int (Int32.ofNat k)), .val (.ref uu), .val (.ref uv), .val (.ref uc), .val (.ref b16), .val (.ref b76), .val (.ref x83), .val (.ref b86), .val (.ref b92), .unset, .unset, .unset, .unset, .unset, .unset] [(.ref uc), (.ref uu), (.ref b98), (.ref b98)])) _
      refine XS.aconstNull X98.here hx rfl (hb hby at_153) ?_
      exact Steps.refl _)
    obtain ⟨_, _, ⟨T101, L101, kk101, nn101⟩, -, X101, ⟨Lc101, hQ101, l101, y101, z101⟩, st101⟩ := X98.specialBack hx (y := (⟨"com/example/cabin_audio_policy/cabinaudiopolicy/AudioAttributes", "<init>", "(Lcom/example/cabin_audio_policy/cabinaudiopolicy/AudioUsage;Lcom/example/cabin_audio_policy/cabinaudiopolicy/AudioContentType;Ljava/lang/String;)V"⟩ : MethodName)) rfl hown (mvT hZ (hw _ (List.mem_of_getElem? (i := 119) rfl))) (mvT hZ (hw _ (List.mem_of_getElem? (i := 109) rfl))) (mvT hZ (hw _ (List.mem_of_getElem? (i := 110) rfl))) (by decide) (backOf (W := 1) (rmIni l Z a0 hw [] b98 uu (.ref uc) .null h98 n0 z98 rfl rfl (Nat.le_trans Z0 (Nat.le_trans K95.1 (Nat.le_of_eq g98.symm))) A98 F98_usage F98_contentType F98_tags) hZ (hw _ (List.mem_of_getElem? (i := 110) rfl)) (hw _ (List.mem_of_getElem? (i := 99) rfl)) (by decide) (by decide)) (g := (mkF m 154 #[.val (.int p0), .val (.int p1), .val (.int p2), .val (.int p3), .val (.int p4), .val (.ref b1), .val (.ref b4), .val (.int (Int32.ofNat i)), .val (.int (Int32.ofNat j)), .val (.int (Int32.ofNat k)), .val (.ref uu), .val (.ref uv), .val (.ref uc), .val (.ref b16), .val (.ref b76), .val (.ref x83), .val (.ref b86), .val (.ref b92), .unset, .unset, .unset, .unset, .unset, .unset] [.null, (.ref uc), (.ref uu), (.ref b98), (.ref b98)])) rfl (by rw [hml]; rfl) (Steps.refl _) (a := b98) (argsL := [(.ref uu), (.ref uc), .null]) (rest := [(.ref b98)]) (lenOf pd_oLcomsexamplescabin_audio_policyscabinaudiopolicysAudioUsageeLcomsexamplescabin_audio_policyscabinaudiopolicysAudioContentTypeeLjavaslangsStringecV rfl) rfl (by show 2 * 0 + _ ≤ _; exact Nat.le_of_eq rfl) (hb hby at_154) (fun _ _ => ⟨rfl, e98, (by decide : 9 + 0 ≤ _), (by decide : 47 + 0 ≤ _)⟩)
    dsimp only [Pt.U, Pt.locs, Pt.cells, Pt.slots] at X101 l101 y101 z101 st101 hQ101
    subst l101 y101 z101
    obtain ⟨rfl, Nq101, Kq101, Ei101, Fu101, Ft101, Fg101⟩ := hQ101
    have c102 : Steps p.tables e below S0 (T101.setTop (mkF m 157 #[.val (.int p0), .val (.int p1), .val (.int p2), .val (.int p3), .val (.int p4), .val (.ref b1), .val (.ref b4), .val (.int (Int32.ofNat i)), .val (.int (Int32.ofNat j)), .val (.int (Int32.ofNat k)), .val (.ref uu), .val (.ref uv), .val (.ref uc), .val (.ref b16), .val (.ref b76), .val (.ref x83), .val (.ref b86), .val (.ref b92), .unset, .unset, .unset, .unset, .unset, .unset] [(.ref b98)])) := c100.trans (st101)
    have N101 := Fr.app N95 Nq101
    have z101 : n0 ≤ T101.heap.size := Nat.le_trans z98 Kq101.1
    have K101 := K98.trans Kq101 (allS (Or.inr (Nat.le_trans K95.1 (Nat.le_of_eq g98.symm))) all0)
    have c103 : Steps p.tables e below S0 (T101.setTop (mkF m 159 #[.val (.int p0), .val (.int p1), .val (.int p2), .val (.int p3), .val (.int p4), .val (.ref b1), .val (.ref b4), .val (.int (Int32.ofNat i)), .val (.int (Int32.ofNat j)), .val (.int (Int32.ofNat k)), .val (.ref uu), .val (.ref uv), .val (.ref uc), .val (.ref b16), .val (.ref b76), .val (.ref x83), .val (.ref b86), .val (.ref b92), .val (.ref b98), .unset, .unset, .unset, .unset, .unset] [])) := c102.trans (by
      show Steps p.tables e below (T101.setTop (mkF m 157 #[.val (.int p0), .val (.int p1), .val (.int p2), .val (.int p3), .val (.int p4), .val (.ref b1), .val (.ref b4), .val (.int (Int32.ofNat i)), .val (.int (Int32.ofNat j)), .val (.int (Int32.ofNat k)), .val (.ref uu), .val (.ref uv), .val (.ref uc), .val (.ref b16), .val (.ref b76), .val (.ref x83), .val (.ref b86), .val (.ref b92), .unset, .unset, .unset, .unset, .unset, .unset] [(.ref b98)])) _
      refine XS.astore X101.here hx rfl (hb hby at_157) rfl rfl (l' := #[.val (.int p0), .val (.int p1), .val (.int p2), .val (.int p3), .val (.int p4), .val (.ref b1), .val (.ref b4), .val (.int (Int32.ofNat i)), .val (.int (Int32.ofNat j)), .val (.int (Int32.ofNat k)), .val (.ref uu), .val (.ref uv), .val (.ref uc), .val (.ref b16), .val (.ref b76), .val (.ref x83), .val (.ref b86), .val (.ref b92), .val (.ref b98), .unset, .unset, .unset, .unset, .unset]) rfl ?_
      exact Steps.refl _)
    obtain ⟨T104, h104, X104, e104, E104, A104, D104, -, st104⟩ := newO X101 hx hZ hown (hw _ (List.mem_of_getElem? (i := 118) rfl)) (hw _ (List.mem_of_getElem? (i := 102) rfl)) (hw _ (List.mem_of_getElem? (i := 99) rfl)) rfl (g := (mkF m 159 #[.val (.int p0), .val (.int p1), .val (.int p2), .val (.int p3), .val (.int p4), .val (.ref b1), .val (.ref b4), .val (.int (Int32.ofNat i)), .val (.int (Int32.ofNat j)), .val (.int (Int32.ofNat k)), .val (.ref uu), .val (.ref uv), .val (.ref uc), .val (.ref b16), .val (.ref b76), .val (.ref x83), .val (.ref b86), .val (.ref b92), .val (.ref b98), .unset, .unset, .unset, .unset, .unset] [])) rfl (hb hby at_159) (by decide) (by decide)
    obtain ⟨b104, g104⟩ : ∃ z, z = T101.heap.size := ⟨_, rfl⟩
    rw [← g104] at A104 D104 st104
    have c105 : Steps p.tables e below S0 (T104.setTop (mkF m 162 #[.val (.int p0), .val (.int p1), .val (.int p2), .val (.int p3), .val (.int p4), .val (.ref b1), .val (.ref b4), .val (.int (Int32.ofNat i)), .val (.int (Int32.ofNat j)), .val (.int (Int32.ofNat k)), .val (.ref uu), .val (.ref uv), .val (.ref uc), .val (.ref b16), .val (.ref b76), .val (.ref x83), .val (.ref b86), .val (.ref b92), .val (.ref b98), .unset, .unset, .unset, .unset, .unset] [(.ref b104)])) := c103.trans (st104 _ (Steps.refl _))
    have z104 : n0 ≤ h104.size := Nat.le_trans z101 E104.1
    have K104 := K101.ext E104
    have lt_b104 : b104 < h104.size := A104.lt
    have F104_usage : Fld Z h104 b104 "com/example/cabin_audio_policy/cabinaudiopolicy/AudioAttributes" "usage" "Lcom/example/cabin_audio_policy/cabinaudiopolicy/AudioUsage;" .null := D104 (Or.inr (hw _ (List.mem_of_getElem? (i := 113) rfl))) (ty := (.object "com/example/cabin_audio_policy/cabinaudiopolicy/AudioUsage")) (by decide)
    have F104_contentType : Fld Z h104 b104 "com/example/cabin_audio_policy/cabinaudiopolicy/AudioAttributes" "contentType" "Lcom/example/cabin_audio_policy/cabinaudiopolicy/AudioContentType;" .null := D104 (Or.inr (hw _ (List.mem_of_getElem? (i := 115) rfl))) (ty := (.object "com/example/cabin_audio_policy/cabinaudiopolicy/AudioContentType")) (by decide)
    have F104_tags : Fld Z h104 b104 "com/example/cabin_audio_policy/cabinaudiopolicy/AudioAttributes" "tags" "Ljava/lang/String;" .null := D104 (Or.inr (hw _ (List.mem_of_getElem? (i := 117) rfl))) (ty := (.object "java/lang/String")) (by decide)
    have c106 : Steps p.tables e below S0 (T104.setTop (mkF m 168 #[.val (.int p0), .val (.int p1), .val (.int p2), .val (.int p3), .val (.int p4), .val (.ref b1), .val (.ref b4), .val (.int (Int32.ofNat i)), .val (.int (Int32.ofNat j)), .val (.int (Int32.ofNat k)), .val (.ref uu), .val (.ref uv), .val (.ref uc), .val (.ref b16), .val (.ref b76), .val (.ref x83), .val (.ref b86), .val (.ref b92), .val (.ref b98), .unset, .unset, .unset, .unset, .unset] [(.ref b76), .null, (.ref uu), (.ref b104), (.ref b104)])) := c105.trans (by
      show Steps p.tables e below (T104.setTop (mkF m 162 #[.val (.int p0), .val (.int p1), .val (.int p2), .val (.int p3), .val (.int p4), .val (.ref b1), .val (.ref b4), .val (.int (Int32.ofNat i)), .val (.int (Int32.ofNat j)), .val (.int (Int32.ofNat k)), .val (.ref uu), .val (.ref uv), .val (.ref uc), .val (.ref b16), .val (.ref b76), .val (.ref x83), .val (.ref b86), .val (.ref b92), .val (.ref b98), .unset, .unset, .unset, .unset, .unset] [(.ref b104)])) _
      refine XS.dup X104.here hx rfl (hb hby at_162) rfl rfl ?_
      show Steps p.tables e below (T104.setTop (mkF m 163 #[.val (.int p0), .val (.int p1), .val (.int p2), .val (.int p3), .val (.int p4), .val (.ref b1), .val (.ref b4), .val (.int (Int32.ofNat i)), .val (.int (Int32.ofNat j)), .val (.int (Int32.ofNat k)), .val (.ref uu), .val (.ref uv), .val (.ref uc), .val (.ref b16), .val (.ref b76), .val (.ref x83), .val (.ref b86), .val (.ref b92), .val (.ref b98), .unset, .unset, .unset, .unset, .unset] [(.ref b104), (.ref b104)])) _
      refine XS.aload X104.here hx rfl (hb hby at_163) rfl rfl ?_
      show Steps p.tables e below (T104.setTop (mkF m 165 #[.val (.int p0), .val (.int p1), .val (.int p2), .val (.int p3), .val (.int p4), .val (.ref b1), .val (.ref b4), .val (.int (Int32.ofNat i)), .val (.int (Int32.ofNat j)), .val (.int (Int32.ofNat k)), .val (.ref uu), .val (.ref uv), .val (.ref uc), .val (.ref b16), .val (.ref b76), .val (.ref x83), .val (.ref b86), .val (.ref b92), .val (.ref b98), .unset, .unset, .unset, .unset, .unset] [(.ref uu), (.ref b104), (.ref b104)])) _
      refine XS.aconstNull X104.here hx rfl (hb hby at_165) ?_
      show Steps p.tables e below (T104.setTop (mkF m 166 #[.val (.int p0), .val (.int p1), .val (.int p2), .val (.int p3), .val (.int p4), .val (.ref b1), .val (.ref b4), .val (.int (Int32.ofNat i)), .val (.int (Int32.ofNat j)), .val (.int (Int32.ofNat k)), .val (.ref uu), .val (.ref uv), .val (.ref uc), .val (.ref b16), .val (.ref b76), .val (.ref x83), .val (.ref b86), .val (.ref b92), .val (.ref b98), .unset, .unset, .unset, .unset, .unset] [.null, (.ref uu), (.ref b104), (.ref b104)])) _
      refine XS.aload X104.here hx rfl (hb hby at_166) rfl rfl ?_
      exact Steps.refl _)
    obtain ⟨_, _, ⟨T107, L107, kk107, nn107⟩, -, X107, ⟨Lc107, hQ107, l107, y107, z107⟩, st107⟩ := X104.specialBack hx (y := (⟨"com/example/cabin_audio_policy/cabinaudiopolicy/AudioAttributes", "<init>", "(Lcom/example/cabin_audio_policy/cabinaudiopolicy/AudioUsage;Lcom/example/cabin_audio_policy/cabinaudiopolicy/AudioContentType;Ljava/lang/String;)V"⟩ : MethodName)) rfl hown (mvT hZ (hw _ (List.mem_of_getElem? (i := 119) rfl))) (mvT hZ (hw _ (List.mem_of_getElem? (i := 109) rfl))) (mvT hZ (hw _ (List.mem_of_getElem? (i := 110) rfl))) (by decide) (backOf (W := 1) (rmIni l Z a0 hw [] b104 uu .null (.ref b76) h104 n0 z104 rfl rfl (Nat.le_trans Z0 (Nat.le_trans K101.1 (Nat.le_of_eq g104.symm))) A104 F104_usage F104_contentType F104_tags) hZ (hw _ (List.mem_of_getElem? (i := 110) rfl)) (hw _ (List.mem_of_getElem? (i := 99) rfl)) (by decide) (by decide)) (g := (mkF m 168 #[.val (.int p0), .val (.int p1), .val (.int p2), .val (.int p3), .val (.int p4), .val (.ref b1), .val (.ref b4), .val (.int (Int32.ofNat i)), .val (.int (Int32.ofNat j)), .val (.int (Int32.ofNat k)), .val (.ref uu), .val (.ref uv), .val (.ref uc), .val (.ref b16), .val (.ref b76), .val (.ref x83), .val (.ref b86), .val (.ref b92), .val (.ref b98), .unset, .unset, .unset, .unset, .unset] [(.ref b76), .null, (.ref uu), (.ref b104), (.ref b104)])) rfl (by rw [hml]; rfl) (Steps.refl _) (a := b104) (argsL := [(.ref uu), .null, (.ref b76)]) (rest := [(.ref b104)]) (lenOf pd_oLcomsexamplescabin_audio_policyscabinaudiopolicysAudioUsageeLcomsexamplescabin_audio_policyscabinaudiopolicysAudioContentTypeeLjavaslangsStringecV rfl) rfl (by show 2 * 0 + _ ≤ _; exact Nat.le_of_eq rfl) (hb hby at_168) (fun _ _ => ⟨rfl, e104, (by decide : 10 + 0 ≤ _), (by decide : 50 + 0 ≤ _)⟩)
    dsimp only [Pt.U, Pt.locs, Pt.cells, Pt.slots] at X107 l107 y107 z107 st107 hQ107
    subst l107 y107 z107
    obtain ⟨rfl, Nq107, Kq107, Ei107, Fu107, Ft107, Fg107⟩ := hQ107
    have c108 : Steps p.tables e below S0 (T107.setTop (mkF m 171 #[.val (.int p0), .val (.int p1), .val (.int p2), .val (.int p3), .val (.int p4), .val (.ref b1), .val (.ref b4), .val (.int (Int32.ofNat i)), .val (.int (Int32.ofNat j)), .val (.int (Int32.ofNat k)), .val (.ref uu), .val (.ref uv), .val (.ref uc), .val (.ref b16), .val (.ref b76), .val (.ref x83), .val (.ref b86), .val (.ref b92), .val (.ref b98), .unset, .unset, .unset, .unset, .unset] [(.ref b104)])) := c106.trans (st107)
    have N107 := Fr.app N101 Nq107
    have z107 : n0 ≤ T107.heap.size := Nat.le_trans z104 Kq107.1
    have K107 := K104.trans Kq107 (allS (Or.inr (Nat.le_trans K101.1 (Nat.le_of_eq g104.symm))) all0)
    have c109 : Steps p.tables e below S0 (T107.setTop (mkF m 177 #[.val (.int p0), .val (.int p1), .val (.int p2), .val (.int p3), .val (.int p4), .val (.ref b1), .val (.ref b4), .val (.int (Int32.ofNat i)), .val (.int (Int32.ofNat j)), .val (.int (Int32.ofNat k)), .val (.ref uu), .val (.ref uv), .val (.ref uc), .val (.ref b16), .val (.ref b76), .val (.ref x83), .val (.ref b86), .val (.ref b92), .val (.ref b98), .val (.ref b104), .unset, .unset, .unset, .unset] [(.ref b86), (.ref x83)])) := c108.trans (by
      show Steps p.tables e below (T107.setTop (mkF m 171 #[.val (.int p0), .val (.int p1), .val (.int p2), .val (.int p3), .val (.int p4), .val (.ref b1), .val (.ref b4), .val (.int (Int32.ofNat i)), .val (.int (Int32.ofNat j)), .val (.int (Int32.ofNat k)), .val (.ref uu), .val (.ref uv), .val (.ref uc), .val (.ref b16), .val (.ref b76), .val (.ref x83), .val (.ref b86), .val (.ref b92), .val (.ref b98), .unset, .unset, .unset, .unset, .unset] [(.ref b104)])) _
      refine XS.astore X107.here hx rfl (hb hby at_171) rfl rfl (l' := #[.val (.int p0), .val (.int p1), .val (.int p2), .val (.int p3), .val (.int p4), .val (.ref b1), .val (.ref b4), .val (.int (Int32.ofNat i)), .val (.int (Int32.ofNat j)), .val (.int (Int32.ofNat k)), .val (.ref uu), .val (.ref uv), .val (.ref uc), .val (.ref b16), .val (.ref b76), .val (.ref x83), .val (.ref b86), .val (.ref b92), .val (.ref b98), .val (.ref b104), .unset, .unset, .unset, .unset]) rfl ?_
      show Steps p.tables e below (T107.setTop (mkF m 173 #[.val (.int p0), .val (.int p1), .val (.int p2), .val (.int p3), .val (.int p4), .val (.ref b1), .val (.ref b4), .val (.int (Int32.ofNat i)), .val (.int (Int32.ofNat j)), .val (.int (Int32.ofNat k)), .val (.ref uu), .val (.ref uv), .val (.ref uc), .val (.ref b16), .val (.ref b76), .val (.ref x83), .val (.ref b86), .val (.ref b92), .val (.ref b98), .val (.ref b104), .unset, .unset, .unset, .unset] [])) _
      refine XS.aload X107.here hx rfl (hb hby at_173) rfl rfl ?_
      show Steps p.tables e below (T107.setTop (mkF m 175 #[.val (.int p0), .val (.int p1), .val (.int p2), .val (.int p3), .val (.int p4), .val (.ref b1), .val (.ref b4), .val (.int (Int32.ofNat i)), .val (.int (Int32.ofNat j)), .val (.int (Int32.ofNat k)), .val (.ref uu), .val (.ref uv), .val (.ref uc), .val (.ref b16), .val (.ref b76), .val (.ref x83), .val (.ref b86), .val (.ref b92), .val (.ref b98), .val (.ref b104), .unset, .unset, .unset, .unset] [(.ref x83)])) _
      refine XS.aload X107.here hx rfl (hb hby at_175) rfl rfl ?_
      exact Steps.refl _)
    obtain ⟨cq110, kq110, q110a, q110b, q110c⟩ := isOf hZ rfl ((((((((Ei83.ext E86).keep Kq89).ext E92).keep Kq95).ext E98).keep Kq101).ext E104).keep Kq107)
    obtain ⟨_, _, ⟨T110, L110, kk110, nn110⟩, -, X110, ⟨Lc110, hQ110, l110, y110, z110⟩, st110⟩ := X107.virtualBack hx (y := (⟨"com/example/cabin_audio_policy/cabinaudiopolicy/AudioAttributes", "equals", "(Ljava/lang/Object;)Z"⟩ : MethodName)) (z := (⟨"com/example/cabin_audio_policy/cabinaudiopolicy/AudioAttributes", "equals", "(Ljava/lang/Object;)Z"⟩ : MethodName)) hown (mvT hZ (hw _ (List.mem_of_getElem? (i := 120) rfl))) (mvT hZ (hw _ (List.mem_of_getElem? (i := 121) rfl))) (notFace_of_selects (args := #[]) (mvT hZ (hw _ (List.mem_of_getElem? (i := 123) rfl)))) (mvT hZ (hw _ (List.mem_of_getElem? (i := 123) rfl))) (mvT hZ (hw _ (List.mem_of_getElem? (i := 122) rfl))) (by decide) (backOf (W := 0) (rmEq l Z a0 hw [] x83 b86 uu uu .null .null T107.heap n0 z107 rfl rfl ((((((Ei89.ext E92).keep Kq95).ext E98).keep Kq101).ext E104).keep Kq107) ((((((((Fu83.ext E86).keep Kq89 (ninS (Nat.ne_of_lt (Nat.lt_of_lt_of_le lt_x83 (Nat.le_of_eq g86.symm))) nin0)).ext E92).keep Kq95 (ninS (Nat.ne_of_lt (Nat.lt_of_lt_of_le (Nat.lt_of_lt_of_le lt_x83 (Nat.le_trans E86.1 Kq89.1)) (Nat.le_of_eq g92.symm))) nin0)).ext E98).keep Kq101 (ninS (Nat.ne_of_lt (Nat.lt_of_lt_of_le (Nat.lt_of_lt_of_le lt_x83 (Nat.le_trans (Nat.le_trans (Nat.le_trans E86.1 Kq89.1) E92.1) Kq95.1)) (Nat.le_of_eq g98.symm))) nin0)).ext E104).keep Kq107 (ninS (Nat.ne_of_lt (Nat.lt_of_lt_of_le (Nat.lt_of_lt_of_le lt_x83 (Nat.le_trans (Nat.le_trans (Nat.le_trans (Nat.le_trans (Nat.le_trans E86.1 Kq89.1) E92.1) Kq95.1) E98.1) Kq101.1)) (Nat.le_of_eq g104.symm))) nin0)) ((((((((Ft83.ext E86).keep Kq89 (ninS (Nat.ne_of_lt (Nat.lt_of_lt_of_le lt_x83 (Nat.le_of_eq g86.symm))) nin0)).ext E92).keep Kq95 (ninS (Nat.ne_of_lt (Nat.lt_of_lt_of_le (Nat.lt_of_lt_of_le lt_x83 (Nat.le_trans E86.1 Kq89.1)) (Nat.le_of_eq g92.symm))) nin0)).ext E98).keep Kq101 (ninS (Nat.ne_of_lt (Nat.lt_of_lt_of_le (Nat.lt_of_lt_of_le lt_x83 (Nat.le_trans (Nat.le_trans (Nat.le_trans E86.1 Kq89.1) E92.1) Kq95.1)) (Nat.le_of_eq g98.symm))) nin0)).ext E104).keep Kq107 (ninS (Nat.ne_of_lt (Nat.lt_of_lt_of_le (Nat.lt_of_lt_of_le lt_x83 (Nat.le_trans (Nat.le_trans (Nat.le_trans (Nat.le_trans (Nat.le_trans E86.1 Kq89.1) E92.1) Kq95.1) E98.1) Kq101.1)) (Nat.le_of_eq g104.symm))) nin0)) ((((((((Fg83.ext E86).keep Kq89 (ninS (Nat.ne_of_lt (Nat.lt_of_lt_of_le lt_x83 (Nat.le_of_eq g86.symm))) nin0)).ext E92).keep Kq95 (ninS (Nat.ne_of_lt (Nat.lt_of_lt_of_le (Nat.lt_of_lt_of_le lt_x83 (Nat.le_trans E86.1 Kq89.1)) (Nat.le_of_eq g92.symm))) nin0)).ext E98).keep Kq101 (ninS (Nat.ne_of_lt (Nat.lt_of_lt_of_le (Nat.lt_of_lt_of_le lt_x83 (Nat.le_trans (Nat.le_trans (Nat.le_trans E86.1 Kq89.1) E92.1) Kq95.1)) (Nat.le_of_eq g98.symm))) nin0)).ext E104).keep Kq107 (ninS (Nat.ne_of_lt (Nat.lt_of_lt_of_le (Nat.lt_of_lt_of_le lt_x83 (Nat.le_trans (Nat.le_trans (Nat.le_trans (Nat.le_trans (Nat.le_trans E86.1 Kq89.1) E92.1) Kq95.1) E98.1) Kq101.1)) (Nat.le_of_eq g104.symm))) nin0)) ((((((Fu89.ext E92).keep Kq95 (ninS (Nat.ne_of_lt (Nat.lt_of_lt_of_le (Nat.lt_of_lt_of_le lt_b86 Kq89.1) (Nat.le_of_eq g92.symm))) nin0)).ext E98).keep Kq101 (ninS (Nat.ne_of_lt (Nat.lt_of_lt_of_le (Nat.lt_of_lt_of_le lt_b86 (Nat.le_trans (Nat.le_trans Kq89.1 E92.1) Kq95.1)) (Nat.le_of_eq g98.symm))) nin0)).ext E104).keep Kq107 (ninS (Nat.ne_of_lt (Nat.lt_of_lt_of_le (Nat.lt_of_lt_of_le lt_b86 (Nat.le_trans (Nat.le_trans (Nat.le_trans (Nat.le_trans Kq89.1 E92.1) Kq95.1) E98.1) Kq101.1)) (Nat.le_of_eq g104.symm))) nin0)) ((((((Ft89.ext E92).keep Kq95 (ninS (Nat.ne_of_lt (Nat.lt_of_lt_of_le (Nat.lt_of_lt_of_le lt_b86 Kq89.1) (Nat.le_of_eq g92.symm))) nin0)).ext E98).keep Kq101 (ninS (Nat.ne_of_lt (Nat.lt_of_lt_of_le (Nat.lt_of_lt_of_le lt_b86 (Nat.le_trans (Nat.le_trans Kq89.1 E92.1) Kq95.1)) (Nat.le_of_eq g98.symm))) nin0)).ext E104).keep Kq107 (ninS (Nat.ne_of_lt (Nat.lt_of_lt_of_le (Nat.lt_of_lt_of_le lt_b86 (Nat.le_trans (Nat.le_trans (Nat.le_trans (Nat.le_trans Kq89.1 E92.1) Kq95.1) E98.1) Kq101.1)) (Nat.le_of_eq g104.symm))) nin0)) ((((((Fg89.ext E92).keep Kq95 (ninS (Nat.ne_of_lt (Nat.lt_of_lt_of_le (Nat.lt_of_lt_of_le lt_b86 Kq89.1) (Nat.le_of_eq g92.symm))) nin0)).ext E98).keep Kq101 (ninS (Nat.ne_of_lt (Nat.lt_of_lt_of_le (Nat.lt_of_lt_of_le lt_b86 (Nat.le_trans (Nat.le_trans Kq89.1 E92.1) Kq95.1)) (Nat.le_of_eq g98.symm))) nin0)).ext E104).keep Kq107 (ninS (Nat.ne_of_lt (Nat.lt_of_lt_of_le (Nat.lt_of_lt_of_le lt_b86 (Nat.le_trans (Nat.le_trans (Nat.le_trans (Nat.le_trans Kq89.1 E92.1) Kq95.1) E98.1) Kq101.1)) (Nat.le_of_eq g104.symm))) nin0))) hZ (hw _ (List.mem_of_getElem? (i := 124) rfl)) (hw _ (List.mem_of_getElem? (i := 99) rfl)) (by decide) (by decide)) q110a q110c (g := (mkF m 177 #[.val (.int p0), .val (.int p1), .val (.int p2), .val (.int p3), .val (.int p4), .val (.ref b1), .val (.ref b4), .val (.int (Int32.ofNat i)), .val (.int (Int32.ofNat j)), .val (.int (Int32.ofNat k)), .val (.ref uu), .val (.ref uv), .val (.ref uc), .val (.ref b16), .val (.ref b76), .val (.ref x83), .val (.ref b86), .val (.ref b92), .val (.ref b98), .val (.ref b104), .unset, .unset, .unset, .unset] [(.ref b86), (.ref x83)])) rfl (by rw [hml]; rfl) (Steps.refl _) (argsL := [(.ref b86)]) (rest := []) (lenOf pd_oLjavaslangsObjectecZ rfl) rfl (by show 2 * 0 + _ ≤ _; exact Nat.le_of_eq rfl) (hb hby at_177) (fun _ _ => ⟨rfl, rfl, (by decide : 10 + 0 ≤ _), (by decide : 50 + 0 ≤ _)⟩)
    dsimp only [Pt.U, Pt.locs, Pt.cells, Pt.slots] at X110 l110 y110 z110 st110 hQ110
    subst l110 y110 z110
    obtain ⟨r110, rfl, hr110, Nq110, eq110⟩ := hQ110
    have c111 : Steps p.tables e below S0 (T110.setTop (mkF m 180 #[.val (.int p0), .val (.int p1), .val (.int p2), .val (.int p3), .val (.int p4), .val (.ref b1), .val (.ref b4), .val (.int (Int32.ofNat i)), .val (.int (Int32.ofNat j)), .val (.int (Int32.ofNat k)), .val (.ref uu), .val (.ref uv), .val (.ref uc), .val (.ref b16), .val (.ref b76), .val (.ref x83), .val (.ref b86), .val (.ref b92), .val (.ref b98), .val (.ref b104), .unset, .unset, .unset, .unset] [(.int r110)])) := c109.trans (st110)
    have N110 := Fr.app N107 Nq110
    have c112 : Steps p.tables e below S0 (T110.setTop (mkF m 186 #[.val (.int p0), .val (.int p1), .val (.int p2), .val (.int p3), .val (.int p4), .val (.ref b1), .val (.ref b4), .val (.int (Int32.ofNat i)), .val (.int (Int32.ofNat j)), .val (.int (Int32.ofNat k)), .val (.ref uu), .val (.ref uv), .val (.ref uc), .val (.ref b16), .val (.ref b76), .val (.ref x83), .val (.ref b86), .val (.ref b92), .val (.ref b98), .val (.ref b104), .val (.int r110), .unset, .unset, .unset] [(.ref b92), (.ref x83)])) := c111.trans (by
      show Steps p.tables e below (T110.setTop (mkF m 180 #[.val (.int p0), .val (.int p1), .val (.int p2), .val (.int p3), .val (.int p4), .val (.ref b1), .val (.ref b4), .val (.int (Int32.ofNat i)), .val (.int (Int32.ofNat j)), .val (.int (Int32.ofNat k)), .val (.ref uu), .val (.ref uv), .val (.ref uc), .val (.ref b16), .val (.ref b76), .val (.ref x83), .val (.ref b86), .val (.ref b92), .val (.ref b98), .val (.ref b104), .unset, .unset, .unset, .unset] [(.int r110)])) _
      refine XS.istore X110.here hx rfl (hb hby at_180) rfl (l' := #[.val (.int p0), .val (.int p1), .val (.int p2), .val (.int p3), .val (.int p4), .val (.ref b1), .val (.ref b4), .val (.int (Int32.ofNat i)), .val (.int (Int32.ofNat j)), .val (.int (Int32.ofNat k)), .val (.ref uu), .val (.ref uv), .val (.ref uc), .val (.ref b16), .val (.ref b76), .val (.ref x83), .val (.ref b86), .val (.ref b92), .val (.ref b98), .val (.ref b104), .val (.int r110), .unset, .unset, .unset]) rfl ?_
      show Steps p.tables e below (T110.setTop (mkF m 182 #[.val (.int p0), .val (.int p1), .val (.int p2), .val (.int p3), .val (.int p4), .val (.ref b1), .val (.ref b4), .val (.int (Int32.ofNat i)), .val (.int (Int32.ofNat j)), .val (.int (Int32.ofNat k)), .val (.ref uu), .val (.ref uv), .val (.ref uc), .val (.ref b16), .val (.ref b76), .val (.ref x83), .val (.ref b86), .val (.ref b92), .val (.ref b98), .val (.ref b104), .val (.int r110), .unset, .unset, .unset] [])) _
      refine XS.aload X110.here hx rfl (hb hby at_182) rfl rfl ?_
      show Steps p.tables e below (T110.setTop (mkF m 184 #[.val (.int p0), .val (.int p1), .val (.int p2), .val (.int p3), .val (.int p4), .val (.ref b1), .val (.ref b4), .val (.int (Int32.ofNat i)), .val (.int (Int32.ofNat j)), .val (.int (Int32.ofNat k)), .val (.ref uu), .val (.ref uv), .val (.ref uc), .val (.ref b16), .val (.ref b76), .val (.ref x83), .val (.ref b86), .val (.ref b92), .val (.ref b98), .val (.ref b104), .val (.int r110), .unset, .unset, .unset] [(.ref x83)])) _
      refine XS.aload X110.here hx rfl (hb hby at_184) rfl rfl ?_
      exact Steps.refl _)
    obtain ⟨cq113, kq113, q113a, q113b, q113c⟩ := isOf hZ eq110 ((((((((Ei83.ext E86).keep Kq89).ext E92).keep Kq95).ext E98).keep Kq101).ext E104).keep Kq107)
    obtain ⟨_, _, ⟨T113, L113, kk113, nn113⟩, -, X113, ⟨Lc113, hQ113, l113, y113, z113⟩, st113⟩ := X110.virtualBack hx (y := (⟨"com/example/cabin_audio_policy/cabinaudiopolicy/AudioAttributes", "equals", "(Ljava/lang/Object;)Z"⟩ : MethodName)) (z := (⟨"com/example/cabin_audio_policy/cabinaudiopolicy/AudioAttributes", "equals", "(Ljava/lang/Object;)Z"⟩ : MethodName)) hown (mvT hZ (hw _ (List.mem_of_getElem? (i := 120) rfl))) (mvT hZ (hw _ (List.mem_of_getElem? (i := 121) rfl))) (notFace_of_selects (args := #[]) (mvT hZ (hw _ (List.mem_of_getElem? (i := 123) rfl)))) (mvT hZ (hw _ (List.mem_of_getElem? (i := 123) rfl))) (mvT hZ (hw _ (List.mem_of_getElem? (i := 122) rfl))) (by decide) (backOf (W := 0) (rmEq l Z a0 hw [] x83 b92 uu uv .null .null T107.heap n0 z107 rfl rfl ((((Ei95.ext E98).keep Kq101).ext E104).keep Kq107) ((((((((Fu83.ext E86).keep Kq89 (ninS (Nat.ne_of_lt (Nat.lt_of_lt_of_le lt_x83 (Nat.le_of_eq g86.symm))) nin0)).ext E92).keep Kq95 (ninS (Nat.ne_of_lt (Nat.lt_of_lt_of_le (Nat.lt_of_lt_of_le lt_x83 (Nat.le_trans E86.1 Kq89.1)) (Nat.le_of_eq g92.symm))) nin0)).ext E98).keep Kq101 (ninS (Nat.ne_of_lt (Nat.lt_of_lt_of_le (Nat.lt_of_lt_of_le lt_x83 (Nat.le_trans (Nat.le_trans (Nat.le_trans E86.1 Kq89.1) E92.1) Kq95.1)) (Nat.le_of_eq g98.symm))) nin0)).ext E104).keep Kq107 (ninS (Nat.ne_of_lt (Nat.lt_of_lt_of_le (Nat.lt_of_lt_of_le lt_x83 (Nat.le_trans (Nat.le_trans (Nat.le_trans (Nat.le_trans (Nat.le_trans E86.1 Kq89.1) E92.1) Kq95.1) E98.1) Kq101.1)) (Nat.le_of_eq g104.symm))) nin0)) ((((((((Ft83.ext E86).keep Kq89 (ninS (Nat.ne_of_lt (Nat.lt_of_lt_of_le lt_x83 (Nat.le_of_eq g86.symm))) nin0)).ext E92).keep Kq95 (ninS (Nat.ne_of_lt (Nat.lt_of_lt_of_le (Nat.lt_of_lt_of_le lt_x83 (Nat.le_trans E86.1 Kq89.1)) (Nat.le_of_eq g92.symm))) nin0)).ext E98).keep Kq101 (ninS (Nat.ne_of_lt (Nat.lt_of_lt_of_le (Nat.lt_of_lt_of_le lt_x83 (Nat.le_trans (Nat.le_trans (Nat.le_trans E86.1 Kq89.1) E92.1) Kq95.1)) (Nat.le_of_eq g98.symm))) nin0)).ext E104).keep Kq107 (ninS (Nat.ne_of_lt (Nat.lt_of_lt_of_le (Nat.lt_of_lt_of_le lt_x83 (Nat.le_trans (Nat.le_trans (Nat.le_trans (Nat.le_trans (Nat.le_trans E86.1 Kq89.1) E92.1) Kq95.1) E98.1) Kq101.1)) (Nat.le_of_eq g104.symm))) nin0)) ((((((((Fg83.ext E86).keep Kq89 (ninS (Nat.ne_of_lt (Nat.lt_of_lt_of_le lt_x83 (Nat.le_of_eq g86.symm))) nin0)).ext E92).keep Kq95 (ninS (Nat.ne_of_lt (Nat.lt_of_lt_of_le (Nat.lt_of_lt_of_le lt_x83 (Nat.le_trans E86.1 Kq89.1)) (Nat.le_of_eq g92.symm))) nin0)).ext E98).keep Kq101 (ninS (Nat.ne_of_lt (Nat.lt_of_lt_of_le (Nat.lt_of_lt_of_le lt_x83 (Nat.le_trans (Nat.le_trans (Nat.le_trans E86.1 Kq89.1) E92.1) Kq95.1)) (Nat.le_of_eq g98.symm))) nin0)).ext E104).keep Kq107 (ninS (Nat.ne_of_lt (Nat.lt_of_lt_of_le (Nat.lt_of_lt_of_le lt_x83 (Nat.le_trans (Nat.le_trans (Nat.le_trans (Nat.le_trans (Nat.le_trans E86.1 Kq89.1) E92.1) Kq95.1) E98.1) Kq101.1)) (Nat.le_of_eq g104.symm))) nin0)) ((((Fu95.ext E98).keep Kq101 (ninS (Nat.ne_of_lt (Nat.lt_of_lt_of_le (Nat.lt_of_lt_of_le lt_b92 Kq95.1) (Nat.le_of_eq g98.symm))) nin0)).ext E104).keep Kq107 (ninS (Nat.ne_of_lt (Nat.lt_of_lt_of_le (Nat.lt_of_lt_of_le lt_b92 (Nat.le_trans (Nat.le_trans Kq95.1 E98.1) Kq101.1)) (Nat.le_of_eq g104.symm))) nin0)) ((((Ft95.ext E98).keep Kq101 (ninS (Nat.ne_of_lt (Nat.lt_of_lt_of_le (Nat.lt_of_lt_of_le lt_b92 Kq95.1) (Nat.le_of_eq g98.symm))) nin0)).ext E104).keep Kq107 (ninS (Nat.ne_of_lt (Nat.lt_of_lt_of_le (Nat.lt_of_lt_of_le lt_b92 (Nat.le_trans (Nat.le_trans Kq95.1 E98.1) Kq101.1)) (Nat.le_of_eq g104.symm))) nin0)) ((((Fg95.ext E98).keep Kq101 (ninS (Nat.ne_of_lt (Nat.lt_of_lt_of_le (Nat.lt_of_lt_of_le lt_b92 Kq95.1) (Nat.le_of_eq g98.symm))) nin0)).ext E104).keep Kq107 (ninS (Nat.ne_of_lt (Nat.lt_of_lt_of_le (Nat.lt_of_lt_of_le lt_b92 (Nat.le_trans (Nat.le_trans Kq95.1 E98.1) Kq101.1)) (Nat.le_of_eq g104.symm))) nin0))) hZ (hw _ (List.mem_of_getElem? (i := 124) rfl)) (hw _ (List.mem_of_getElem? (i := 99) rfl)) (by decide) (by decide)) q113a q113c (g := (mkF m 186 #[.val (.int p0), .val (.int p1), .val (.int p2), .val (.int p3), .val (.int p4), .val (.ref b1), .val (.ref b4), .val (.int (Int32.ofNat i)), .val (.int (Int32.ofNat j)), .val (.int (Int32.ofNat k)), .val (.ref uu), .val (.ref uv), .val (.ref uc), .val (.ref b16), .val (.ref b76), .val (.ref x83), .val (.ref b86), .val (.ref b92), .val (.ref b98), .val (.ref b104), .val (.int r110), .unset, .unset, .unset] [(.ref b92), (.ref x83)])) rfl (by rw [hml]; rfl) (Steps.refl _) (argsL := [(.ref b92)]) (rest := []) (lenOf pd_oLjavaslangsObjectecZ rfl) rfl (by show 2 * 0 + _ ≤ _; exact Nat.le_of_eq rfl) (hb hby at_186) (fun _ _ => ⟨rfl, eq110, (by decide : 10 + 0 ≤ _), (by decide : 50 + 0 ≤ _)⟩)
    dsimp only [Pt.U, Pt.locs, Pt.cells, Pt.slots] at X113 l113 y113 z113 st113 hQ113
    subst l113 y113 z113
    obtain ⟨r113, rfl, hr113, Nq113, eq113⟩ := hQ113
    have c114 : Steps p.tables e below S0 (T113.setTop (mkF m 189 #[.val (.int p0), .val (.int p1), .val (.int p2), .val (.int p3), .val (.int p4), .val (.ref b1), .val (.ref b4), .val (.int (Int32.ofNat i)), .val (.int (Int32.ofNat j)), .val (.int (Int32.ofNat k)), .val (.ref uu), .val (.ref uv), .val (.ref uc), .val (.ref b16), .val (.ref b76), .val (.ref x83), .val (.ref b86), .val (.ref b92), .val (.ref b98), .val (.ref b104), .val (.int r110), .unset, .unset, .unset] [(.int r113)])) := c112.trans (st113)
    have N113 := Fr.app N110 Nq113
    have c115 : Steps p.tables e below S0 (T113.setTop (mkF m 195 #[.val (.int p0), .val (.int p1), .val (.int p2), .val (.int p3), .val (.int p4), .val (.ref b1), .val (.ref b4), .val (.int (Int32.ofNat i)), .val (.int (Int32.ofNat j)), .val (.int (Int32.ofNat k)), .val (.ref uu), .val (.ref uv), .val (.ref uc), .val (.ref b16), .val (.ref b76), .val (.ref x83), .val (.ref b86), .val (.ref b92), .val (.ref b98), .val (.ref b104), .val (.int r110), .val (.int r113), .unset, .unset] [(.ref b98), (.ref x83)])) := c114.trans (by
      show Steps p.tables e below (T113.setTop (mkF m 189 #[.val (.int p0), .val (.int p1), .val (.int p2), .val (.int p3), .val (.int p4), .val (.ref b1), .val (.ref b4), .val (.int (Int32.ofNat i)), .val (.int (Int32.ofNat j)), .val (.int (Int32.ofNat k)), .val (.ref uu), .val (.ref uv), .val (.ref uc), .val (.ref b16), .val (.ref b76), .val (.ref x83), .val (.ref b86), .val (.ref b92), .val (.ref b98), .val (.ref b104), .val (.int r110), .unset, .unset, .unset] [(.int r113)])) _
      refine XS.istore X113.here hx rfl (hb hby at_189) rfl (l' := #[.val (.int p0), .val (.int p1), .val (.int p2), .val (.int p3), .val (.int p4), .val (.ref b1), .val (.ref b4), .val (.int (Int32.ofNat i)), .val (.int (Int32.ofNat j)), .val (.int (Int32.ofNat k)), .val (.ref uu), .val (.ref uv), .val (.ref uc), .val (.ref b16), .val (.ref b76), .val (.ref x83), .val (.ref b86), .val (.ref b92), .val (.ref b98), .val (.ref b104), .val (.int r110), .val (.int r113), .unset, .unset]) rfl ?_
      show Steps p.tables e below (T113.setTop (mkF m 191 #[.val (.int p0), .val (.int p1), .val (.int p2), .val (.int p3), .val (.int p4), .val (.ref b1), .val (.ref b4), .val (.int (Int32.ofNat i)), .val (.int (Int32.ofNat j)), .val (.int (Int32.ofNat k)), .val (.ref uu), .val (.ref uv), .val (.ref uc), .val (.ref b16), .val (.ref b76), .val (.ref x83), .val (.ref b86), .val (.ref b92), .val (.ref b98), .val (.ref b104), .val (.int r110), .val (.int r113), .unset, .unset] [])) _
      refine XS.aload X113.here hx rfl (hb hby at_191) rfl rfl ?_
      show Steps p.tables e below (T113.setTop (mkF m 193 #[.val (.int p0), .val (.int p1), .val (.int p2), .val (.int p3), .val (.int p4), .val (.ref b1), .val (.ref b4), .val (.int (Int32.ofNat i)), .val (.int (Int32.ofNat j)), .val (.int (Int32.ofNat k)), .val (.ref uu), .val (.ref uv), .val (.ref uc), .val (.ref b16), .val (.ref b76), .val (.ref x83), .val (.ref b86), .val (.ref b92), .val (.ref b98), .val (.ref b104), .val (.int r110), .val (.int r113), .unset, .unset] [(.ref x83)])) _
      refine XS.aload X113.here hx rfl (hb hby at_193) rfl rfl ?_
      exact Steps.refl _)
    obtain ⟨cq116, kq116, q116a, q116b, q116c⟩ := isOf hZ eq113 ((((((((Ei83.ext E86).keep Kq89).ext E92).keep Kq95).ext E98).keep Kq101).ext E104).keep Kq107)
    obtain ⟨_, _, ⟨T116, L116, kk116, nn116⟩, -, X116, ⟨Lc116, hQ116, l116, y116, z116⟩, st116⟩ := X113.virtualBack hx (y := (⟨"com/example/cabin_audio_policy/cabinaudiopolicy/AudioAttributes", "equals", "(Ljava/lang/Object;)Z"⟩ : MethodName)) (z := (⟨"com/example/cabin_audio_policy/cabinaudiopolicy/AudioAttributes", "equals", "(Ljava/lang/Object;)Z"⟩ : MethodName)) hown (mvT hZ (hw _ (List.mem_of_getElem? (i := 120) rfl))) (mvT hZ (hw _ (List.mem_of_getElem? (i := 121) rfl))) (notFace_of_selects (args := #[]) (mvT hZ (hw _ (List.mem_of_getElem? (i := 123) rfl)))) (mvT hZ (hw _ (List.mem_of_getElem? (i := 123) rfl))) (mvT hZ (hw _ (List.mem_of_getElem? (i := 122) rfl))) (by decide) (backOf (W := 0) (rmEq l Z a0 hw [] x83 b98 uu uu (.ref uc) .null T107.heap n0 z107 rfl rfl ((Ei101.ext E104).keep Kq107) ((((((((Fu83.ext E86).keep Kq89 (ninS (Nat.ne_of_lt (Nat.lt_of_lt_of_le lt_x83 (Nat.le_of_eq g86.symm))) nin0)).ext E92).keep Kq95 (ninS (Nat.ne_of_lt (Nat.lt_of_lt_of_le (Nat.lt_of_lt_of_le lt_x83 (Nat.le_trans E86.1 Kq89.1)) (Nat.le_of_eq g92.symm))) nin0)).ext E98).keep Kq101 (ninS (Nat.ne_of_lt (Nat.lt_of_lt_of_le (Nat.lt_of_lt_of_le lt_x83 (Nat.le_trans (Nat.le_trans (Nat.le_trans E86.1 Kq89.1) E92.1) Kq95.1)) (Nat.le_of_eq g98.symm))) nin0)).ext E104).keep Kq107 (ninS (Nat.ne_of_lt (Nat.lt_of_lt_of_le (Nat.lt_of_lt_of_le lt_x83 (Nat.le_trans (Nat.le_trans (Nat.le_trans (Nat.le_trans (Nat.le_trans E86.1 Kq89.1) E92.1) Kq95.1) E98.1) Kq101.1)) (Nat.le_of_eq g104.symm))) nin0)) ((((((((Ft83.ext E86).keep Kq89 (ninS (Nat.ne_of_lt (Nat.lt_of_lt_of_le lt_x83 (Nat.le_of_eq g86.symm))) nin0)).ext E92).keep Kq95 (ninS (Nat.ne_of_lt (Nat.lt_of_lt_of_le (Nat.lt_of_lt_of_le lt_x83 (Nat.le_trans E86.1 Kq89.1)) (Nat.le_of_eq g92.symm))) nin0)).ext E98).keep Kq101 (ninS (Nat.ne_of_lt (Nat.lt_of_lt_of_le (Nat.lt_of_lt_of_le lt_x83 (Nat.le_trans (Nat.le_trans (Nat.le_trans E86.1 Kq89.1) E92.1) Kq95.1)) (Nat.le_of_eq g98.symm))) nin0)).ext E104).keep Kq107 (ninS (Nat.ne_of_lt (Nat.lt_of_lt_of_le (Nat.lt_of_lt_of_le lt_x83 (Nat.le_trans (Nat.le_trans (Nat.le_trans (Nat.le_trans (Nat.le_trans E86.1 Kq89.1) E92.1) Kq95.1) E98.1) Kq101.1)) (Nat.le_of_eq g104.symm))) nin0)) ((((((((Fg83.ext E86).keep Kq89 (ninS (Nat.ne_of_lt (Nat.lt_of_lt_of_le lt_x83 (Nat.le_of_eq g86.symm))) nin0)).ext E92).keep Kq95 (ninS (Nat.ne_of_lt (Nat.lt_of_lt_of_le (Nat.lt_of_lt_of_le lt_x83 (Nat.le_trans E86.1 Kq89.1)) (Nat.le_of_eq g92.symm))) nin0)).ext E98).keep Kq101 (ninS (Nat.ne_of_lt (Nat.lt_of_lt_of_le (Nat.lt_of_lt_of_le lt_x83 (Nat.le_trans (Nat.le_trans (Nat.le_trans E86.1 Kq89.1) E92.1) Kq95.1)) (Nat.le_of_eq g98.symm))) nin0)).ext E104).keep Kq107 (ninS (Nat.ne_of_lt (Nat.lt_of_lt_of_le (Nat.lt_of_lt_of_le lt_x83 (Nat.le_trans (Nat.le_trans (Nat.le_trans (Nat.le_trans (Nat.le_trans E86.1 Kq89.1) E92.1) Kq95.1) E98.1) Kq101.1)) (Nat.le_of_eq g104.symm))) nin0)) ((Fu101.ext E104).keep Kq107 (ninS (Nat.ne_of_lt (Nat.lt_of_lt_of_le (Nat.lt_of_lt_of_le lt_b98 Kq101.1) (Nat.le_of_eq g104.symm))) nin0)) ((Ft101.ext E104).keep Kq107 (ninS (Nat.ne_of_lt (Nat.lt_of_lt_of_le (Nat.lt_of_lt_of_le lt_b98 Kq101.1) (Nat.le_of_eq g104.symm))) nin0)) ((Fg101.ext E104).keep Kq107 (ninS (Nat.ne_of_lt (Nat.lt_of_lt_of_le (Nat.lt_of_lt_of_le lt_b98 Kq101.1) (Nat.le_of_eq g104.symm))) nin0))) hZ (hw _ (List.mem_of_getElem? (i := 124) rfl)) (hw _ (List.mem_of_getElem? (i := 99) rfl)) (by decide) (by decide)) q116a q116c (g := (mkF m 195 #[.val (.int p0), .val (.int p1), .val (.int p2), .val (.int p3), .val (.int p4), .val (.ref b1), .val (.ref b4), .val (.int (Int32.ofNat i)), .val (.int (Int32.ofNat j)), .val (.int (Int32.ofNat k)), .val (.ref uu), .val (.ref uv), .val (.ref uc), .val (.ref b16), .val (.ref b76), .val (.ref x83), .val (.ref b86), .val (.ref b92), .val (.ref b98), .val (.ref b104), .val (.int r110), .val (.int r113), .unset, .unset] [(.ref b98), (.ref x83)])) rfl (by rw [hml]; rfl) (Steps.refl _) (argsL := [(.ref b98)]) (rest := []) (lenOf pd_oLjavaslangsObjectecZ rfl) rfl (by show 2 * 0 + _ ≤ _; exact Nat.le_of_eq rfl) (hb hby at_195) (fun _ _ => ⟨rfl, eq113, (by decide : 10 + 0 ≤ _), (by decide : 50 + 0 ≤ _)⟩)
    dsimp only [Pt.U, Pt.locs, Pt.cells, Pt.slots] at X116 l116 y116 z116 st116 hQ116
    subst l116 y116 z116
    obtain ⟨r116, rfl, hr116, Nq116, eq116⟩ := hQ116
    have c117 : Steps p.tables e below S0 (T116.setTop (mkF m 198 #[.val (.int p0), .val (.int p1), .val (.int p2), .val (.int p3), .val (.int p4), .val (.ref b1), .val (.ref b4), .val (.int (Int32.ofNat i)), .val (.int (Int32.ofNat j)), .val (.int (Int32.ofNat k)), .val (.ref uu), .val (.ref uv), .val (.ref uc), .val (.ref b16), .val (.ref b76), .val (.ref x83), .val (.ref b86), .val (.ref b92), .val (.ref b98), .val (.ref b104), .val (.int r110), .val (.int r113), .unset, .unset] [(.int r116)])) := c115.trans (st116)
    have N116 := Fr.app N113 Nq116
    have c118 : Steps p.tables e below S0 (T116.setTop (mkF m 204 #[.val (.int p0), .val (.int p1), .val (.int p2), .val (.int p3), .val (.int p4), .val (.ref b1), .val (.ref b4), .val (.int (Int32.ofNat i)), .val (.int (Int32.ofNat j)), .val (.int (Int32.ofNat k)), .val (.ref uu), .val (.ref uv), .val (.ref uc), .val (.ref b16), .val (.ref b76), .val (.ref x83), .val (.ref b86), .val (.ref b92), .val (.ref b98), .val (.ref b104), .val (.int r110), .val (.int r113), .val (.int r116), .unset] [(.ref b104), (.ref x83)])) := c117.trans (by
      show Steps p.tables e below (T116.setTop (mkF m 198 #[.val (.int p0), .val (.int p1), .val (.int p2), .val (.int p3), .val (.int p4), .val (.ref b1), .val (.ref b4), .val (.int (Int32.ofNat i)), .val (.int (Int32.ofNat j)), .val (.int (Int32.ofNat k)), .val (.ref uu), .val (.ref uv), .val (.ref uc), .val (.ref b16), .val (.ref b76), .val (.ref x83), .val (.ref b86), .val (.ref b92), .val (.ref b98), .val (.ref b104), .val (.int r110), .val (.int r113), .unset, .unset] [(.int r116)])) _
      refine XS.istore X116.here hx rfl (hb hby at_198) rfl (l' := #[.val (.int p0), .val (.int p1), .val (.int p2), .val (.int p3), .val (.int p4), .val (.ref b1), .val (.ref b4), .val (.int (Int32.ofNat i)), .val (.int (Int32.ofNat j)), .val (.int (Int32.ofNat k)), .val (.ref uu), .val (.ref uv), .val (.ref uc), .val (.ref b16), .val (.ref b76), .val (.ref x83), .val (.ref b86), .val (.ref b92), .val (.ref b98), .val (.ref b104), .val (.int r110), .val (.int r113), .val (.int r116), .unset]) rfl ?_
      show Steps p.tables e below (T116.setTop (mkF m 200 #[.val (.int p0), .val (.int p1), .val (.int p2), .val (.int p3), .val (.int p4), .val (.ref b1), .val (.ref b4), .val (.int (Int32.ofNat i)), .val (.int (Int32.ofNat j)), .val (.int (Int32.ofNat k)), .val (.ref uu), .val (.ref uv), .val (.ref uc), .val (.ref b16), .val (.ref b76), .val (.ref x83), .val (.ref b86), .val (.ref b92), .val (.ref b98), .val (.ref b104), .val (.int r110), .val (.int r113), .val (.int r116), .unset] [])) _
      refine XS.aload X116.here hx rfl (hb hby at_200) rfl rfl ?_
      show Steps p.tables e below (T116.setTop (mkF m 202 #[.val (.int p0), .val (.int p1), .val (.int p2), .val (.int p3), .val (.int p4), .val (.ref b1), .val (.ref b4), .val (.int (Int32.ofNat i)), .val (.int (Int32.ofNat j)), .val (.int (Int32.ofNat k)), .val (.ref uu), .val (.ref uv), .val (.ref uc), .val (.ref b16), .val (.ref b76), .val (.ref x83), .val (.ref b86), .val (.ref b92), .val (.ref b98), .val (.ref b104), .val (.int r110), .val (.int r113), .val (.int r116), .unset] [(.ref x83)])) _
      refine XS.aload X116.here hx rfl (hb hby at_202) rfl rfl ?_
      exact Steps.refl _)
    obtain ⟨cq119, kq119, q119a, q119b, q119c⟩ := isOf hZ eq116 ((((((((Ei83.ext E86).keep Kq89).ext E92).keep Kq95).ext E98).keep Kq101).ext E104).keep Kq107)
    obtain ⟨_, _, ⟨T119, L119, kk119, nn119⟩, -, X119, ⟨Lc119, hQ119, l119, y119, z119⟩, st119⟩ := X116.virtualBack hx (y := (⟨"com/example/cabin_audio_policy/cabinaudiopolicy/AudioAttributes", "equals", "(Ljava/lang/Object;)Z"⟩ : MethodName)) (z := (⟨"com/example/cabin_audio_policy/cabinaudiopolicy/AudioAttributes", "equals", "(Ljava/lang/Object;)Z"⟩ : MethodName)) hown (mvT hZ (hw _ (List.mem_of_getElem? (i := 120) rfl))) (mvT hZ (hw _ (List.mem_of_getElem? (i := 121) rfl))) (notFace_of_selects (args := #[]) (mvT hZ (hw _ (List.mem_of_getElem? (i := 123) rfl)))) (mvT hZ (hw _ (List.mem_of_getElem? (i := 123) rfl))) (mvT hZ (hw _ (List.mem_of_getElem? (i := 122) rfl))) (by decide) (backOf (W := 0) (rmEq l Z a0 hw [] x83 b104 uu uu .null (.ref b76) T107.heap n0 z107 rfl rfl Ei107 ((((((((Fu83.ext E86).keep Kq89 (ninS (Nat.ne_of_lt (Nat.lt_of_lt_of_le lt_x83 (Nat.le_of_eq g86.symm))) nin0)).ext E92).keep Kq95 (ninS (Nat.ne_of_lt (Nat.lt_of_lt_of_le (Nat.lt_of_lt_of_le lt_x83 (Nat.le_trans E86.1 Kq89.1)) (Nat.le_of_eq g92.symm))) nin0)).ext E98).keep Kq101 (ninS (Nat.ne_of_lt (Nat.lt_of_lt_of_le (Nat.lt_of_lt_of_le lt_x83 (Nat.le_trans (Nat.le_trans (Nat.le_trans E86.1 Kq89.1) E92.1) Kq95.1)) (Nat.le_of_eq g98.symm))) nin0)).ext E104).keep Kq107 (ninS (Nat.ne_of_lt (Nat.lt_of_lt_of_le (Nat.lt_of_lt_of_le lt_x83 (Nat.le_trans (Nat.le_trans (Nat.le_trans (Nat.le_trans (Nat.le_trans E86.1 Kq89.1) E92.1) Kq95.1) E98.1) Kq101.1)) (Nat.le_of_eq g104.symm))) nin0)) ((((((((Ft83.ext E86).keep Kq89 (ninS (Nat.ne_of_lt (Nat.lt_of_lt_of_le lt_x83 (Nat.le_of_eq g86.symm))) nin0)).ext E92).keep Kq95 (ninS (Nat.ne_of_lt (Nat.lt_of_lt_of_le (Nat.lt_of_lt_of_le lt_x83 (Nat.le_trans E86.1 Kq89.1)) (Nat.le_of_eq g92.symm))) nin0)).ext E98).keep Kq101 (ninS (Nat.ne_of_lt (Nat.lt_of_lt_of_le (Nat.lt_of_lt_of_le lt_x83 (Nat.le_trans (Nat.le_trans (Nat.le_trans E86.1 Kq89.1) E92.1) Kq95.1)) (Nat.le_of_eq g98.symm))) nin0)).ext E104).keep Kq107 (ninS (Nat.ne_of_lt (Nat.lt_of_lt_of_le (Nat.lt_of_lt_of_le lt_x83 (Nat.le_trans (Nat.le_trans (Nat.le_trans (Nat.le_trans (Nat.le_trans E86.1 Kq89.1) E92.1) Kq95.1) E98.1) Kq101.1)) (Nat.le_of_eq g104.symm))) nin0)) ((((((((Fg83.ext E86).keep Kq89 (ninS (Nat.ne_of_lt (Nat.lt_of_lt_of_le lt_x83 (Nat.le_of_eq g86.symm))) nin0)).ext E92).keep Kq95 (ninS (Nat.ne_of_lt (Nat.lt_of_lt_of_le (Nat.lt_of_lt_of_le lt_x83 (Nat.le_trans E86.1 Kq89.1)) (Nat.le_of_eq g92.symm))) nin0)).ext E98).keep Kq101 (ninS (Nat.ne_of_lt (Nat.lt_of_lt_of_le (Nat.lt_of_lt_of_le lt_x83 (Nat.le_trans (Nat.le_trans (Nat.le_trans E86.1 Kq89.1) E92.1) Kq95.1)) (Nat.le_of_eq g98.symm))) nin0)).ext E104).keep Kq107 (ninS (Nat.ne_of_lt (Nat.lt_of_lt_of_le (Nat.lt_of_lt_of_le lt_x83 (Nat.le_trans (Nat.le_trans (Nat.le_trans (Nat.le_trans (Nat.le_trans E86.1 Kq89.1) E92.1) Kq95.1) E98.1) Kq101.1)) (Nat.le_of_eq g104.symm))) nin0)) Fu107 Ft107 Fg107) hZ (hw _ (List.mem_of_getElem? (i := 124) rfl)) (hw _ (List.mem_of_getElem? (i := 99) rfl)) (by decide) (by decide)) q119a q119c (g := (mkF m 204 #[.val (.int p0), .val (.int p1), .val (.int p2), .val (.int p3), .val (.int p4), .val (.ref b1), .val (.ref b4), .val (.int (Int32.ofNat i)), .val (.int (Int32.ofNat j)), .val (.int (Int32.ofNat k)), .val (.ref uu), .val (.ref uv), .val (.ref uc), .val (.ref b16), .val (.ref b76), .val (.ref x83), .val (.ref b86), .val (.ref b92), .val (.ref b98), .val (.ref b104), .val (.int r110), .val (.int r113), .val (.int r116), .unset] [(.ref b104), (.ref x83)])) rfl (by rw [hml]; rfl) (Steps.refl _) (argsL := [(.ref b104)]) (rest := []) (lenOf pd_oLjavaslangsObjectecZ rfl) rfl (by show 2 * 0 + _ ≤ _; exact Nat.le_of_eq rfl) (hb hby at_204) (fun _ _ => ⟨rfl, eq116, (by decide : 10 + 0 ≤ _), (by decide : 50 + 0 ≤ _)⟩)
    dsimp only [Pt.U, Pt.locs, Pt.cells, Pt.slots] at X119 l119 y119 z119 st119 hQ119
    subst l119 y119 z119
    obtain ⟨r119, rfl, hr119, Nq119, eq119⟩ := hQ119
    have c120 : Steps p.tables e below S0 (T119.setTop (mkF m 207 #[.val (.int p0), .val (.int p1), .val (.int p2), .val (.int p3), .val (.int p4), .val (.ref b1), .val (.ref b4), .val (.int (Int32.ofNat i)), .val (.int (Int32.ofNat j)), .val (.int (Int32.ofNat k)), .val (.ref uu), .val (.ref uv), .val (.ref uc), .val (.ref b16), .val (.ref b76), .val (.ref x83), .val (.ref b86), .val (.ref b92), .val (.ref b98), .val (.ref b104), .val (.int r110), .val (.int r113), .val (.int r116), .unset] [(.int r119)])) := c118.trans (st119)
    have N119 := Fr.app N116 Nq119
    have c121 : Steps p.tables e below S0 (T119.setTop (mkF m 220 #[.val (.int p0), .val (.int p1), .val (.int p2), .val (.int p3), .val (.int p4), .val (.ref b1), .val (.ref b4), .val (.int (Int32.ofNat i)), .val (.int (Int32.ofNat j)), .val (.int (Int32.ofNat k)), .val (.ref uu), .val (.ref uv), .val (.ref uc), .val (.ref b16), .val (.ref b76), .val (.ref x83), .val (.ref b86), .val (.ref b92), .val (.ref b98), .val (.ref b104), .val (.int r110), .val (.int r113), .val (.int r116), .val (.int r119)] [(.int (Int32.ofNat j)), (.int (Int32.ofNat i)), (.int r113)])) := c120.trans (by
      show Steps p.tables e below (T119.setTop (mkF m 207 #[.val (.int p0), .val (.int p1), .val (.int p2), .val (.int p3), .val (.int p4), .val (.ref b1), .val (.ref b4), .val (.int (Int32.ofNat i)), .val (.int (Int32.ofNat j)), .val (.int (Int32.ofNat k)), .val (.ref uu), .val (.ref uv), .val (.ref uc), .val (.ref b16), .val (.ref b76), .val (.ref x83), .val (.ref b86), .val (.ref b92), .val (.ref b98), .val (.ref b104), .val (.int r110), .val (.int r113), .val (.int r116), .unset] [(.int r119)])) _
      refine XS.istore X119.here hx rfl (hb hby at_207) rfl (l' := #[.val (.int p0), .val (.int p1), .val (.int p2), .val (.int p3), .val (.int p4), .val (.ref b1), .val (.ref b4), .val (.int (Int32.ofNat i)), .val (.int (Int32.ofNat j)), .val (.int (Int32.ofNat k)), .val (.ref uu), .val (.ref uv), .val (.ref uc), .val (.ref b16), .val (.ref b76), .val (.ref x83), .val (.ref b86), .val (.ref b92), .val (.ref b98), .val (.ref b104), .val (.int r110), .val (.int r113), .val (.int r116), .val (.int r119)]) rfl ?_
      show Steps p.tables e below (T119.setTop (mkF m 209 #[.val (.int p0), .val (.int p1), .val (.int p2), .val (.int p3), .val (.int p4), .val (.ref b1), .val (.ref b4), .val (.int (Int32.ofNat i)), .val (.int (Int32.ofNat j)), .val (.int (Int32.ofNat k)), .val (.ref uu), .val (.ref uv), .val (.ref uc), .val (.ref b16), .val (.ref b76), .val (.ref x83), .val (.ref b86), .val (.ref b92), .val (.ref b98), .val (.ref b104), .val (.int r110), .val (.int r113), .val (.int r116), .val (.int r119)] [])) _
      refine XS.iload X119.here hx rfl (hb hby at_209) rfl ?_
      show Steps p.tables e below (T119.setTop (mkF m 211 #[.val (.int p0), .val (.int p1), .val (.int p2), .val (.int p3), .val (.int p4), .val (.ref b1), .val (.ref b4), .val (.int (Int32.ofNat i)), .val (.int (Int32.ofNat j)), .val (.int (Int32.ofNat k)), .val (.ref uu), .val (.ref uv), .val (.ref uc), .val (.ref b16), .val (.ref b76), .val (.ref x83), .val (.ref b86), .val (.ref b92), .val (.ref b98), .val (.ref b104), .val (.int r110), .val (.int r113), .val (.int r116), .val (.int r119)] [(.int r110)])) _
      refine XS.ifNo X119.here hx rfl (hb hby at_211) rfl ((if0 _ _).trans (feq (fun q => absurd ((own_is1 hr110 ⟨rfl, rfl, rfl⟩).symm.trans q) (by decide))).1) ?_
      show Steps p.tables e below (T119.setTop (mkF m 214 #[.val (.int p0), .val (.int p1), .val (.int p2), .val (.int p3), .val (.int p4), .val (.ref b1), .val (.ref b4), .val (.int (Int32.ofNat i)), .val (.int (Int32.ofNat j)), .val (.int (Int32.ofNat k)), .val (.ref uu), .val (.ref uv), .val (.ref uc), .val (.ref b16), .val (.ref b76), .val (.ref x83), .val (.ref b86), .val (.ref b92), .val (.ref b98), .val (.ref b104), .val (.int r110), .val (.int r113), .val (.int r116), .val (.int r119)] [])) _
      refine XS.iload X119.here hx rfl (hb hby at_214) rfl ?_
      show Steps p.tables e below (T119.setTop (mkF m 216 #[.val (.int p0), .val (.int p1), .val (.int p2), .val (.int p3), .val (.int p4), .val (.ref b1), .val (.ref b4), .val (.int (Int32.ofNat i)), .val (.int (Int32.ofNat j)), .val (.int (Int32.ofNat k)), .val (.ref uu), .val (.ref uv), .val (.ref uc), .val (.ref b16), .val (.ref b76), .val (.ref x83), .val (.ref b86), .val (.ref b92), .val (.ref b98), .val (.ref b104), .val (.int r110), .val (.int r113), .val (.int r116), .val (.int r119)] [(.int r113)])) _
      refine XS.iload X119.here hx rfl (hb hby at_216) rfl ?_
      show Steps p.tables e below (T119.setTop (mkF m 218 #[.val (.int p0), .val (.int p1), .val (.int p2), .val (.int p3), .val (.int p4), .val (.ref b1), .val (.ref b4), .val (.int (Int32.ofNat i)), .val (.int (Int32.ofNat j)), .val (.int (Int32.ofNat k)), .val (.ref uu), .val (.ref uv), .val (.ref uc), .val (.ref b16), .val (.ref b76), .val (.ref x83), .val (.ref b86), .val (.ref b92), .val (.ref b98), .val (.ref b104), .val (.int r110), .val (.int r113), .val (.int r116), .val (.int r119)] [(.int (Int32.ofNat i)), (.int r113)])) _
      refine XS.iload X119.here hx rfl (hb hby at_218) rfl ?_
      exact Steps.refl _)
    obtain ⟨vij, hvij, c124⟩ : ∃ (vij : Int32), vij = (if (Int32.ofNat i) = (Int32.ofNat j) then (1 : Int32) else (0 : Int32)) ∧ Steps p.tables e below S0 (T119.setTop (mkF m 228 #[.val (.int p0), .val (.int p1), .val (.int p2), .val (.int p3), .val (.int p4), .val (.ref b1), .val (.ref b4), .val (.int (Int32.ofNat i)), .val (.int (Int32.ofNat j)), .val (.int (Int32.ofNat k)), .val (.ref uu), .val (.ref uv), .val (.ref uc), .val (.ref b16), .val (.ref b76), .val (.ref x83), .val (.ref b86), .val (.ref b92), .val (.ref b98), .val (.ref b104), .val (.int r110), .val (.int r113), .val (.int r116), .val (.int r119)] [(.int vij), (.int r113)])) := by
      by_cases hq122 : (Int32.ofNat i) = (Int32.ofNat j)
      · exact ⟨_, (by rw [if_pos hq122]), c121.trans (by
          show Steps p.tables e below (T119.setTop (mkF m 220 #[.val (.int p0), .val (.int p1), .val (.int p2), .val (.int p3), .val (.int p4), .val (.ref b1), .val (.ref b4), .val (.int (Int32.ofNat i)), .val (.int (Int32.ofNat j)), .val (.int (Int32.ofNat k)), .val (.ref uu), .val (.ref uv), .val (.ref uc), .val (.ref b16), .val (.ref b76), .val (.ref x83), .val (.ref b86), .val (.ref b92), .val (.ref b98), .val (.ref b104), .val (.int r110), .val (.int r113), .val (.int r116), .val (.int r119)] [(.int (Int32.ofNat j)), (.int (Int32.ofNat i)), (.int r113)])) _
          refine XS.icmpNo X119.here hx rfl (hb hby at_220) rfl (teq hq122).2 ?_
          show Steps p.tables e below (T119.setTop (mkF m 223 #[.val (.int p0), .val (.int p1), .val (.int p2), .val (.int p3), .val (.int p4), .val (.ref b1), .val (.ref b4), .val (.int (Int32.ofNat i)), .val (.int (Int32.ofNat j)), .val (.int (Int32.ofNat k)), .val (.ref uu), .val (.ref uv), .val (.ref uc), .val (.ref b16), .val (.ref b76), .val (.ref x83), .val (.ref b86), .val (.ref b92), .val (.ref b98), .val (.ref b104), .val (.int r110), .val (.int r113), .val (.int r116), .val (.int r119)] [(.int r113)])) _
          refine XS.iconst X119.here hx rfl (hb hby at_223) ?_
          show Steps p.tables e below (T119.setTop (mkF m 224 #[.val (.int p0), .val (.int p1), .val (.int p2), .val (.int p3), .val (.int p4), .val (.ref b1), .val (.ref b4), .val (.int (Int32.ofNat i)), .val (.int (Int32.ofNat j)), .val (.int (Int32.ofNat k)), .val (.ref uu), .val (.ref uv), .val (.ref uc), .val (.ref b16), .val (.ref b76), .val (.ref x83), .val (.ref b86), .val (.ref b92), .val (.ref b98), .val (.ref b104), .val (.int r110), .val (.int r113), .val (.int r116), .val (.int r119)] [(.int (1 : Int32)), (.int r113)])) _
          refine XS.goto X119.here hx rfl (pc0 := 224) (pc' := 228) rfl (hb hby at_224) (by decide) (by decide) ?_
          exact Steps.refl _)⟩
      · exact ⟨_, (by rw [if_neg hq122]), c121.trans (by
          show Steps p.tables e below (T119.setTop (mkF m 220 #[.val (.int p0), .val (.int p1), .val (.int p2), .val (.int p3), .val (.int p4), .val (.ref b1), .val (.ref b4), .val (.int (Int32.ofNat i)), .val (.int (Int32.ofNat j)), .val (.int (Int32.ofNat k)), .val (.ref uu), .val (.ref uv), .val (.ref uc), .val (.ref b16), .val (.ref b76), .val (.ref x83), .val (.ref b86), .val (.ref b92), .val (.ref b98), .val (.ref b104), .val (.int r110), .val (.int r113), .val (.int r116), .val (.int r119)] [(.int (Int32.ofNat j)), (.int (Int32.ofNat i)), (.int r113)])) _
          refine XS.icmpYes X119.here hx rfl (pc0 := 220) (pc' := 227) rfl (hb hby at_220) rfl (feq hq122).2 (by decide) (by decide) ?_
          show Steps p.tables e below (T119.setTop (mkF m 227 #[.val (.int p0), .val (.int p1), .val (.int p2), .val (.int p3), .val (.int p4), .val (.ref b1), .val (.ref b4), .val (.int (Int32.ofNat i)), .val (.int (Int32.ofNat j)), .val (.int (Int32.ofNat k)), .val (.ref uu), .val (.ref uv), .val (.ref uc), .val (.ref b16), .val (.ref b76), .val (.ref x83), .val (.ref b86), .val (.ref b92), .val (.ref b98), .val (.ref b104), .val (.int r110), .val (.int r113), .val (.int r116), .val (.int r119)] [(.int r113)])) _
          refine XS.iconst X119.here hx rfl (hb hby at_227) ?_
          exact Steps.refl _)⟩
    have c125 : Steps p.tables e below S0 (T119.setTop (mkF m 246 #[.val (.int p0), .val (.int p1), .val (.int p2), .val (.int p3), .val (.int p4), .val (.ref b1), .val (.ref b4), .val (.int (Int32.ofNat i)), .val (.int (Int32.ofNat j)), .val (.int (Int32.ofNat k)), .val (.ref uu), .val (.ref uv), .val (.ref uc), .val (.ref b16), .val (.ref b76), .val (.ref x83), .val (.ref b86), .val (.ref b92), .val (.ref b98), .val (.ref b104), .val (.int r110), .val (.int r113), .val (.int r116), .val (.int r119)] [(.int (1 : Int32))])) := c124.trans (by
      show Steps p.tables e below (T119.setTop (mkF m 228 #[.val (.int p0), .val (.int p1), .val (.int p2), .val (.int p3), .val (.int p4), .val (.ref b1), .val (.ref b4), .val (.int (Int32.ofNat i)), .val (.int (Int32.ofNat j)), .val (.int (Int32.ofNat k)), .val (.ref uu), .val (.ref uv), .val (.ref uc), .val (.ref b16), .val (.ref b76), .val (.ref x83), .val (.ref b86), .val (.ref b92), .val (.ref b98), .val (.ref b104), .val (.int r110), .val (.int r113), .val (.int r116), .val (.int r119)] [(.int vij), (.int r113)])) _
      refine XS.icmpNo X119.here hx rfl (hb hby at_228) rfl (teq (own_cmp hi hj hvij (fun q => huu ▸ huv ▸ q ▸ rfl) (fun q => Fld.ne (huu ▸ hUo i hi) (huv ▸ hUo j hj) q) hr113)).2 ?_
      show Steps p.tables e below (T119.setTop (mkF m 231 #[.val (.int p0), .val (.int p1), .val (.int p2), .val (.int p3), .val (.int p4), .val (.ref b1), .val (.ref b4), .val (.int (Int32.ofNat i)), .val (.int (Int32.ofNat j)), .val (.int (Int32.ofNat k)), .val (.ref uu), .val (.ref uv), .val (.ref uc), .val (.ref b16), .val (.ref b76), .val (.ref x83), .val (.ref b86), .val (.ref b92), .val (.ref b98), .val (.ref b104), .val (.int r110), .val (.int r113), .val (.int r116), .val (.int r119)] [])) _
      refine XS.iload X119.here hx rfl (hb hby at_231) rfl ?_
      show Steps p.tables e below (T119.setTop (mkF m 233 #[.val (.int p0), .val (.int p1), .val (.int p2), .val (.int p3), .val (.int p4), .val (.ref b1), .val (.ref b4), .val (.int (Int32.ofNat i)), .val (.int (Int32.ofNat j)), .val (.int (Int32.ofNat k)), .val (.ref uu), .val (.ref uv), .val (.ref uc), .val (.ref b16), .val (.ref b76), .val (.ref x83), .val (.ref b86), .val (.ref b92), .val (.ref b98), .val (.ref b104), .val (.int r110), .val (.int r113), .val (.int r116), .val (.int r119)] [(.int r116)])) _
      refine XS.ifNo X119.here hx rfl (hb hby at_233) rfl ((if0 _ _).trans (teq (own_is0 hr116 (fun q => nomatch q.2.1))).2) ?_
      show Steps p.tables e below (T119.setTop (mkF m 236 #[.val (.int p0), .val (.int p1), .val (.int p2), .val (.int p3), .val (.int p4), .val (.ref b1), .val (.ref b4), .val (.int (Int32.ofNat i)), .val (.int (Int32.ofNat j)), .val (.int (Int32.ofNat k)), .val (.ref uu), .val (.ref uv), .val (.ref uc), .val (.ref b16), .val (.ref b76), .val (.ref x83), .val (.ref b86), .val (.ref b92), .val (.ref b98), .val (.ref b104), .val (.int r110), .val (.int r113), .val (.int r116), .val (.int r119)] [])) _
      refine XS.iload X119.here hx rfl (hb hby at_236) rfl ?_
      show Steps p.tables e below (T119.setTop (mkF m 238 #[.val (.int p0), .val (.int p1), .val (.int p2), .val (.int p3), .val (.int p4), .val (.ref b1), .val (.ref b4), .val (.int (Int32.ofNat i)), .val (.int (Int32.ofNat j)), .val (.int (Int32.ofNat k)), .val (.ref uu), .val (.ref uv), .val (.ref uc), .val (.ref b16), .val (.ref b76), .val (.ref x83), .val (.ref b86), .val (.ref b92), .val (.ref b98), .val (.ref b104), .val (.int r110), .val (.int r113), .val (.int r116), .val (.int r119)] [(.int r119)])) _
      refine XS.ifNo X119.here hx rfl (hb hby at_238) rfl ((if0 _ _).trans (teq (own_is0 hr119 (fun q => nomatch q.2.2))).2) ?_
      show Steps p.tables e below (T119.setTop (mkF m 241 #[.val (.int p0), .val (.int p1), .val (.int p2), .val (.int p3), .val (.int p4), .val (.ref b1), .val (.ref b4), .val (.int (Int32.ofNat i)), .val (.int (Int32.ofNat j)), .val (.int (Int32.ofNat k)), .val (.ref uu), .val (.ref uv), .val (.ref uc), .val (.ref b16), .val (.ref b76), .val (.ref x83), .val (.ref b86), .val (.ref b92), .val (.ref b98), .val (.ref b104), .val (.int r110), .val (.int r113), .val (.int r116), .val (.int r119)] [])) _
      refine XS.iconst X119.here hx rfl (hb hby at_241) ?_
      show Steps p.tables e below (T119.setTop (mkF m 242 #[.val (.int p0), .val (.int p1), .val (.int p2), .val (.int p3), .val (.int p4), .val (.ref b1), .val (.ref b4), .val (.int (Int32.ofNat i)), .val (.int (Int32.ofNat j)), .val (.int (Int32.ofNat k)), .val (.ref uu), .val (.ref uv), .val (.ref uc), .val (.ref b16), .val (.ref b76), .val (.ref x83), .val (.ref b86), .val (.ref b92), .val (.ref b98), .val (.ref b104), .val (.int r110), .val (.int r113), .val (.int r116), .val (.int r119)] [(.int (1 : Int32))])) _
      refine XS.goto X119.here hx rfl (pc0 := 242) (pc' := 246) rfl (hb hby at_242) (by decide) (by decide) ?_
      exact Steps.refl _)
    obtain ⟨fs, hr, hrun, hended, hW, hsame⟩ := X119.leave (v := some (.int (1 : Int32))) (fun h => by rw [Bd.returns] at h; cases h)
    refine ⟨_, _, c125.trans (retOut X119 hx Bd.returns rfl (Or.inl ⟨rfl, by simp, _, rfl⟩) (hb hby at_246) hr), hrun, hended, _, _, rfl, ?_, ⟨_, rfl⟩, hW, hsame.mono (by decide) (by decide)⟩
    show Q0 Z  h0 n0 _ T119.heap _
    rw [eq119]
    exact ⟨rfl, N119⟩

theorem own_fld {s : State} {args : Array Value} {t : Term} {x : Addr} {C n d : String} {k : Int32} (ev : t.eval args s none [] s = some (.ref x)) (h : (Cond.eq (.field t C n d) (.int k)).value args s none s [] = some true) : Fld s s.heap x C n d (.int k) := by
  apply Fld.start
  have e2 := fld_at (C := C) (n := n) (dd := d) ev
  cases q : s.fieldOf? x C n d with
  | none => rw [q] at e2; simp only [Cond.value, e2] at h; cases h
  | some v =>
    rw [q] at e2
    simp only [Cond.value, e2, Term.int_eval] at h
    cases v <;> simp at h
    rw [h]

set_option maxRecDepth 65536 in
set_option maxHeartbeats 40000000 in
theorem comes_1 {Post : Tables → Env → Array Value → State → Outcome → State → Prop} (hpost : ∀ tb e args s v u, (limb_1_1.after args s (.returned v) u = true ∧ limb_1_2.after args s (.returned v) u = true ∧ True) → FrameEnd s (.returned v) u (Jvm.fieldLocs frame_1_writes args s ++ Jvm.arrayLocs frame_1_arrays args s ++ Jvm.staticLocs frame_1_statics s) 32 192 → Post tb e args s (.returned v) u) :
    ArmFor flags0 classFile x code maxLocals ret World_1 tables_1 room_1 Calls_1 rest_1 Pre_1 Post := by
  intro l hfl _ _ p e ha hc hk s m args below hf hA hF happ hP
  obtain ⟨hcalls, hrest, hpre⟩ := hP
  obtain ⟨-, -, -, hnamed, -, -, -, hat⟩ := (Spec.applies_iff hf).mp happ
  obtain ⟨hg, hn⟩ := and_e (Cond.before_iff.mp (show (Jvm.Cond.and given_1 narrow_1).before args s = true from hpre))
  obtain ⟨hcnt, hr1⟩ := and_e hg
  obtain ⟨ga0, hr2⟩ := and_e hr1
  obtain ⟨ga1, hr3⟩ := and_e hr2
  obtain ⟨ga2, hr4⟩ := and_e hr3
  obtain ⟨ga3, hr5⟩ := and_e hr4
  obtain ⟨w0, w1, w2, w3, w4, rfl⟩ : ∃ w0 w1 w2 w3 w4 : Value, args = #[w0, w1, w2, w3, w4] := by
    have hs : args.size = 5 := by simpa [Cond.value, given_1] using hcnt
    obtain ⟨L⟩ := args
    match L, hs with
    | [w0, w1, w2, w3, w4], _ => exact ⟨w0, w1, w2, w3, w4, rfl⟩
  have hw := fun d (hd : d ∈ tables_1) => atoms_spec (ws := Jvm.Cond.code x code maxLocals ret :: tables_1) hat d (List.mem_cons_of_mem _ hd)
  have hfit : Fit s := fun {y c} hc i hi => by
    obtain ⟨ha, rfl⟩ := Array.getElem?_eq_some_iff.mp hc
    have q := List.all_eq_true.mp ((Array.all_eq_true_iff_forall_mem.mp hF) _ (Array.getElem_mem ha)) i (List.mem_range.mpr hi)
    simpa [Array.getElem?_eq_getElem hi] using q
  obtain ⟨hsets, hown0⟩ := atoms_of _ (rest_1_c_eq ▸ (show rest_1_c.before _ s = true from hrest))
  obtain ⟨i0, ei0⟩ := is_v ga0
  obtain rfl : w0 = (.int i0) := Option.some.inj ei0
  obtain ⟨i1, ei1⟩ := is_v ga1
  obtain rfl : w1 = (.int i1) := Option.some.inj ei1
  obtain ⟨i2, ei2⟩ := is_v ga2
  obtain rfl : w2 = (.int i2) := Option.some.inj ei2
  obtain ⟨i3, ei3⟩ := is_v ga3
  obtain rfl : w3 = (.int i3) := Option.some.inj ei3
  obtain ⟨i4, ei4⟩ := is_v hr5
  obtain rfl : w4 = (.int i4) := Option.some.inj ei4
  have n3 := not_v (Cond.before_iff.mp (hsets _ (List.mem_of_getElem? (i := 2) rfl)))
  obtain ⟨G1, eG1⟩ := is_v (Cond.before_iff.mp (hsets _ (List.mem_of_getElem? (i := 1) rfl)))
  have O2 : Sta s s.heap "java/lang/String" "COMPACT_STRINGS" "Z" (.int G1) := Sta.start eG1 (Or.inl (hsets _ (List.mem_of_getElem? (i := 0) rfl)))
  have P5 : ¬ (G1 = (0 : Int32)) := gotF (Cond.eq_ints eG1 (Term.int_eval (0))) n3
  obtain ⟨nw0, nr0⟩ := and_e hn
  obtain ⟨nw1, nr1⟩ := and_e nr0
  obtain ⟨nw2, nr2⟩ := and_e nr1
  obtain ⟨nw3, nr3⟩ := and_e nr2
  obtain ⟨nw4, nr4⟩ := and_e nr3
  obtain ⟨nw5, nr5⟩ := and_e nr4
  obtain ⟨nw6, nr6⟩ := and_e nr5
  obtain ⟨nw7, nr7⟩ := and_e nr6
  obtain ⟨nw8, nr8⟩ := and_e nr7
  obtain ⟨nw9, nr9⟩ := and_e nr8
  obtain ⟨nw10, nr10⟩ := and_e nr9
  obtain ⟨nw11, nr11⟩ := and_e nr10
  obtain ⟨nw12, nr12⟩ := and_e nr11
  obtain ⟨nw13, nr13⟩ := and_e nr12
  obtain ⟨nw14, nr14⟩ := and_e nr13
  obtain ⟨nw15, nr15⟩ := and_e nr14
  obtain ⟨nw16, nr16⟩ := and_e nr15
  obtain ⟨nw17, nr17⟩ := and_e nr16
  obtain ⟨nw18, nr18⟩ := and_e nr17
  obtain ⟨nw19, nr19⟩ := and_e nr18
  obtain ⟨nw20, nr20⟩ := and_e nr19
  obtain ⟨nw21, nr21⟩ := and_e nr20
  obtain ⟨nw22, nr22⟩ := and_e nr21
  obtain ⟨nw23, nr23⟩ := and_e nr22
  obtain ⟨nw24, nr24⟩ := and_e nr23
  obtain ⟨nw25, nr25⟩ := and_e nr24
  obtain ⟨nw26, nr26⟩ := and_e nr25
  obtain ⟨nw27, nr27⟩ := and_e nr26
  obtain ⟨nw28, nr28⟩ := and_e nr27
  obtain ⟨nw29, nr29⟩ := and_e nr28
  obtain ⟨nw30, nr30⟩ := and_e nr29
  obtain ⟨nw31, nr31⟩ := and_e nr30
  obtain ⟨nw32, nr32⟩ := and_e nr31
  obtain ⟨nw33, nr33⟩ := and_e nr32
  obtain ⟨nw34, nr34⟩ := and_e nr33
  obtain ⟨nw35, nr35⟩ := and_e nr34
  obtain ⟨nw36, nr36⟩ := and_e nr35
  obtain ⟨nw37, nr37⟩ := and_e nr36
  obtain ⟨nw38, nr38⟩ := and_e nr37
  obtain ⟨nw39, nr39⟩ := and_e nr38
  obtain ⟨nw40, nr40⟩ := and_e nr39
  obtain ⟨nw41, nr41⟩ := and_e nr40
  obtain ⟨nw42, nr42⟩ := and_e nr41
  obtain ⟨nw43, nr43⟩ := and_e nr42
  obtain ⟨nw44, nr44⟩ := and_e nr43
  obtain ⟨nw45, nr45⟩ := and_e nr44
  obtain ⟨nw46, nr46⟩ := and_e nr45
  have nw47 := nr46
  obtain ⟨u0, evu0⟩ := exa_v nw0
  have su0 : Sta s s.heap "com/example/cabin_audio_policy/cabinaudiopolicy/AudioUsage" "UNKNOWN" "Lcom/example/cabin_audio_policy/cabinaudiopolicy/AudioUsage;" (.ref u0) := Sta.start evu0 (Or.inr ⟨hw _ (List.mem_of_getElem? (i := 7) rfl), hw _ (List.mem_of_getElem? (i := 8) rfl)⟩)
  have xu0 : Exa s s.heap u0 "com/example/cabin_audio_policy/cabinaudiopolicy/AudioUsage" := Exa.start evu0 nw0
  obtain ⟨u1, evu1⟩ := exa_v nw1
  have su1 : Sta s s.heap "com/example/cabin_audio_policy/cabinaudiopolicy/AudioUsage" "MEDIA" "Lcom/example/cabin_audio_policy/cabinaudiopolicy/AudioUsage;" (.ref u1) := Sta.start evu1 (Or.inr ⟨hw _ (List.mem_of_getElem? (i := 7) rfl), hw _ (List.mem_of_getElem? (i := 11) rfl)⟩)
  have xu1 : Exa s s.heap u1 "com/example/cabin_audio_policy/cabinaudiopolicy/AudioUsage" := Exa.start evu1 nw1
  obtain ⟨u2, evu2⟩ := exa_v nw2
  have su2 : Sta s s.heap "com/example/cabin_audio_policy/cabinaudiopolicy/AudioUsage" "GAME" "Lcom/example/cabin_audio_policy/cabinaudiopolicy/AudioUsage;" (.ref u2) := Sta.start evu2 (Or.inr ⟨hw _ (List.mem_of_getElem? (i := 7) rfl), hw _ (List.mem_of_getElem? (i := 13) rfl)⟩)
  have xu2 : Exa s s.heap u2 "com/example/cabin_audio_policy/cabinaudiopolicy/AudioUsage" := Exa.start evu2 nw2
  obtain ⟨u3, evu3⟩ := exa_v nw3
  have su3 : Sta s s.heap "com/example/cabin_audio_policy/cabinaudiopolicy/AudioUsage" "ASSISTANCE_NAVIGATION_GUIDANCE" "Lcom/example/cabin_audio_policy/cabinaudiopolicy/AudioUsage;" (.ref u3) := Sta.start evu3 (Or.inr ⟨hw _ (List.mem_of_getElem? (i := 7) rfl), hw _ (List.mem_of_getElem? (i := 15) rfl)⟩)
  have xu3 : Exa s s.heap u3 "com/example/cabin_audio_policy/cabinaudiopolicy/AudioUsage" := Exa.start evu3 nw3
  obtain ⟨u4, evu4⟩ := exa_v nw4
  have su4 : Sta s s.heap "com/example/cabin_audio_policy/cabinaudiopolicy/AudioUsage" "ASSISTANT" "Lcom/example/cabin_audio_policy/cabinaudiopolicy/AudioUsage;" (.ref u4) := Sta.start evu4 (Or.inr ⟨hw _ (List.mem_of_getElem? (i := 7) rfl), hw _ (List.mem_of_getElem? (i := 17) rfl)⟩)
  have xu4 : Exa s s.heap u4 "com/example/cabin_audio_policy/cabinaudiopolicy/AudioUsage" := Exa.start evu4 nw4
  obtain ⟨u5, evu5⟩ := exa_v nw5
  have su5 : Sta s s.heap "com/example/cabin_audio_policy/cabinaudiopolicy/AudioUsage" "ASSISTANCE_ACCESSIBILITY" "Lcom/example/cabin_audio_policy/cabinaudiopolicy/AudioUsage;" (.ref u5) := Sta.start evu5 (Or.inr ⟨hw _ (List.mem_of_getElem? (i := 7) rfl), hw _ (List.mem_of_getElem? (i := 19) rfl)⟩)
  have xu5 : Exa s s.heap u5 "com/example/cabin_audio_policy/cabinaudiopolicy/AudioUsage" := Exa.start evu5 nw5
  obtain ⟨u6, evu6⟩ := exa_v nw6
  have su6 : Sta s s.heap "com/example/cabin_audio_policy/cabinaudiopolicy/AudioUsage" "NOTIFICATION_TELEPHONY_RINGTONE" "Lcom/example/cabin_audio_policy/cabinaudiopolicy/AudioUsage;" (.ref u6) := Sta.start evu6 (Or.inr ⟨hw _ (List.mem_of_getElem? (i := 7) rfl), hw _ (List.mem_of_getElem? (i := 21) rfl)⟩)
  have xu6 : Exa s s.heap u6 "com/example/cabin_audio_policy/cabinaudiopolicy/AudioUsage" := Exa.start evu6 nw6
  obtain ⟨u7, evu7⟩ := exa_v nw7
  have su7 : Sta s s.heap "com/example/cabin_audio_policy/cabinaudiopolicy/AudioUsage" "VOICE_COMMUNICATION" "Lcom/example/cabin_audio_policy/cabinaudiopolicy/AudioUsage;" (.ref u7) := Sta.start evu7 (Or.inr ⟨hw _ (List.mem_of_getElem? (i := 7) rfl), hw _ (List.mem_of_getElem? (i := 23) rfl)⟩)
  have xu7 : Exa s s.heap u7 "com/example/cabin_audio_policy/cabinaudiopolicy/AudioUsage" := Exa.start evu7 nw7
  obtain ⟨u8, evu8⟩ := exa_v nw8
  have su8 : Sta s s.heap "com/example/cabin_audio_policy/cabinaudiopolicy/AudioUsage" "CALL_ASSISTANT" "Lcom/example/cabin_audio_policy/cabinaudiopolicy/AudioUsage;" (.ref u8) := Sta.start evu8 (Or.inr ⟨hw _ (List.mem_of_getElem? (i := 7) rfl), hw _ (List.mem_of_getElem? (i := 25) rfl)⟩)
  have xu8 : Exa s s.heap u8 "com/example/cabin_audio_policy/cabinaudiopolicy/AudioUsage" := Exa.start evu8 nw8
  obtain ⟨u9, evu9⟩ := exa_v nw9
  have su9 : Sta s s.heap "com/example/cabin_audio_policy/cabinaudiopolicy/AudioUsage" "VOICE_COMMUNICATION_SIGNALLING" "Lcom/example/cabin_audio_policy/cabinaudiopolicy/AudioUsage;" (.ref u9) := Sta.start evu9 (Or.inr ⟨hw _ (List.mem_of_getElem? (i := 7) rfl), hw _ (List.mem_of_getElem? (i := 27) rfl)⟩)
  have xu9 : Exa s s.heap u9 "com/example/cabin_audio_policy/cabinaudiopolicy/AudioUsage" := Exa.start evu9 nw9
  obtain ⟨u10, evu10⟩ := exa_v nw10
  have su10 : Sta s s.heap "com/example/cabin_audio_policy/cabinaudiopolicy/AudioUsage" "ALARM" "Lcom/example/cabin_audio_policy/cabinaudiopolicy/AudioUsage;" (.ref u10) := Sta.start evu10 (Or.inr ⟨hw _ (List.mem_of_getElem? (i := 7) rfl), hw _ (List.mem_of_getElem? (i := 29) rfl)⟩)
  have xu10 : Exa s s.heap u10 "com/example/cabin_audio_policy/cabinaudiopolicy/AudioUsage" := Exa.start evu10 nw10
  obtain ⟨u11, evu11⟩ := exa_v nw11
  have su11 : Sta s s.heap "com/example/cabin_audio_policy/cabinaudiopolicy/AudioUsage" "NOTIFICATION" "Lcom/example/cabin_audio_policy/cabinaudiopolicy/AudioUsage;" (.ref u11) := Sta.start evu11 (Or.inr ⟨hw _ (List.mem_of_getElem? (i := 7) rfl), hw _ (List.mem_of_getElem? (i := 31) rfl)⟩)
  have xu11 : Exa s s.heap u11 "com/example/cabin_audio_policy/cabinaudiopolicy/AudioUsage" := Exa.start evu11 nw11
  obtain ⟨u12, evu12⟩ := exa_v nw12
  have su12 : Sta s s.heap "com/example/cabin_audio_policy/cabinaudiopolicy/AudioUsage" "NOTIFICATION_EVENT" "Lcom/example/cabin_audio_policy/cabinaudiopolicy/AudioUsage;" (.ref u12) := Sta.start evu12 (Or.inr ⟨hw _ (List.mem_of_getElem? (i := 7) rfl), hw _ (List.mem_of_getElem? (i := 33) rfl)⟩)
  have xu12 : Exa s s.heap u12 "com/example/cabin_audio_policy/cabinaudiopolicy/AudioUsage" := Exa.start evu12 nw12
  obtain ⟨u13, evu13⟩ := exa_v nw13
  have su13 : Sta s s.heap "com/example/cabin_audio_policy/cabinaudiopolicy/AudioUsage" "NOTIFICATION_COMMUNICATION_REQUEST" "Lcom/example/cabin_audio_policy/cabinaudiopolicy/AudioUsage;" (.ref u13) := Sta.start evu13 (Or.inr ⟨hw _ (List.mem_of_getElem? (i := 7) rfl), hw _ (List.mem_of_getElem? (i := 35) rfl)⟩)
  have xu13 : Exa s s.heap u13 "com/example/cabin_audio_policy/cabinaudiopolicy/AudioUsage" := Exa.start evu13 nw13
  obtain ⟨u14, evu14⟩ := exa_v nw14
  have su14 : Sta s s.heap "com/example/cabin_audio_policy/cabinaudiopolicy/AudioUsage" "NOTIFICATION_COMMUNICATION_INSTANT" "Lcom/example/cabin_audio_policy/cabinaudiopolicy/AudioUsage;" (.ref u14) := Sta.start evu14 (Or.inr ⟨hw _ (List.mem_of_getElem? (i := 7) rfl), hw _ (List.mem_of_getElem? (i := 37) rfl)⟩)
  have xu14 : Exa s s.heap u14 "com/example/cabin_audio_policy/cabinaudiopolicy/AudioUsage" := Exa.start evu14 nw14
  obtain ⟨u15, evu15⟩ := exa_v nw15
  have su15 : Sta s s.heap "com/example/cabin_audio_policy/cabinaudiopolicy/AudioUsage" "NOTIFICATION_COMMUNICATION_DELAYED" "Lcom/example/cabin_audio_policy/cabinaudiopolicy/AudioUsage;" (.ref u15) := Sta.start evu15 (Or.inr ⟨hw _ (List.mem_of_getElem? (i := 7) rfl), hw _ (List.mem_of_getElem? (i := 39) rfl)⟩)
  have xu15 : Exa s s.heap u15 "com/example/cabin_audio_policy/cabinaudiopolicy/AudioUsage" := Exa.start evu15 nw15
  obtain ⟨u16, evu16⟩ := exa_v nw16
  have su16 : Sta s s.heap "com/example/cabin_audio_policy/cabinaudiopolicy/AudioUsage" "ASSISTANCE_SONIFICATION" "Lcom/example/cabin_audio_policy/cabinaudiopolicy/AudioUsage;" (.ref u16) := Sta.start evu16 (Or.inr ⟨hw _ (List.mem_of_getElem? (i := 7) rfl), hw _ (List.mem_of_getElem? (i := 41) rfl)⟩)
  have xu16 : Exa s s.heap u16 "com/example/cabin_audio_policy/cabinaudiopolicy/AudioUsage" := Exa.start evu16 nw16
  obtain ⟨u17, evu17⟩ := exa_v nw17
  have su17 : Sta s s.heap "com/example/cabin_audio_policy/cabinaudiopolicy/AudioUsage" "EMERGENCY" "Lcom/example/cabin_audio_policy/cabinaudiopolicy/AudioUsage;" (.ref u17) := Sta.start evu17 (Or.inr ⟨hw _ (List.mem_of_getElem? (i := 7) rfl), hw _ (List.mem_of_getElem? (i := 43) rfl)⟩)
  have xu17 : Exa s s.heap u17 "com/example/cabin_audio_policy/cabinaudiopolicy/AudioUsage" := Exa.start evu17 nw17
  obtain ⟨u18, evu18⟩ := exa_v nw18
  have su18 : Sta s s.heap "com/example/cabin_audio_policy/cabinaudiopolicy/AudioUsage" "SAFETY" "Lcom/example/cabin_audio_policy/cabinaudiopolicy/AudioUsage;" (.ref u18) := Sta.start evu18 (Or.inr ⟨hw _ (List.mem_of_getElem? (i := 7) rfl), hw _ (List.mem_of_getElem? (i := 45) rfl)⟩)
  have xu18 : Exa s s.heap u18 "com/example/cabin_audio_policy/cabinaudiopolicy/AudioUsage" := Exa.start evu18 nw18
  obtain ⟨u19, evu19⟩ := exa_v nw19
  have su19 : Sta s s.heap "com/example/cabin_audio_policy/cabinaudiopolicy/AudioUsage" "VEHICLE_STATUS" "Lcom/example/cabin_audio_policy/cabinaudiopolicy/AudioUsage;" (.ref u19) := Sta.start evu19 (Or.inr ⟨hw _ (List.mem_of_getElem? (i := 7) rfl), hw _ (List.mem_of_getElem? (i := 47) rfl)⟩)
  have xu19 : Exa s s.heap u19 "com/example/cabin_audio_policy/cabinaudiopolicy/AudioUsage" := Exa.start evu19 nw19
  obtain ⟨u20, evu20⟩ := exa_v nw20
  have su20 : Sta s s.heap "com/example/cabin_audio_policy/cabinaudiopolicy/AudioUsage" "ANNOUNCEMENT" "Lcom/example/cabin_audio_policy/cabinaudiopolicy/AudioUsage;" (.ref u20) := Sta.start evu20 (Or.inr ⟨hw _ (List.mem_of_getElem? (i := 7) rfl), hw _ (List.mem_of_getElem? (i := 49) rfl)⟩)
  have xu20 : Exa s s.heap u20 "com/example/cabin_audio_policy/cabinaudiopolicy/AudioUsage" := Exa.start evu20 nw20
  obtain ⟨ct0, evct0⟩ := exa_v nw21
  have sct0 : Sta s s.heap "com/example/cabin_audio_policy/cabinaudiopolicy/AudioContentType" "UNKNOWN" "Lcom/example/cabin_audio_policy/cabinaudiopolicy/AudioContentType;" (.ref ct0) := Sta.start evct0 (Or.inr ⟨hw _ (List.mem_of_getElem? (i := 56) rfl), hw _ (List.mem_of_getElem? (i := 57) rfl)⟩)
  have xct0 : Exa s s.heap ct0 "com/example/cabin_audio_policy/cabinaudiopolicy/AudioContentType" := Exa.start evct0 nw21
  obtain ⟨ct1, evct1⟩ := exa_v nw22
  have sct1 : Sta s s.heap "com/example/cabin_audio_policy/cabinaudiopolicy/AudioContentType" "SPEECH" "Lcom/example/cabin_audio_policy/cabinaudiopolicy/AudioContentType;" (.ref ct1) := Sta.start evct1 (Or.inr ⟨hw _ (List.mem_of_getElem? (i := 56) rfl), hw _ (List.mem_of_getElem? (i := 60) rfl)⟩)
  have xct1 : Exa s s.heap ct1 "com/example/cabin_audio_policy/cabinaudiopolicy/AudioContentType" := Exa.start evct1 nw22
  obtain ⟨ct2, evct2⟩ := exa_v nw23
  have sct2 : Sta s s.heap "com/example/cabin_audio_policy/cabinaudiopolicy/AudioContentType" "MUSIC" "Lcom/example/cabin_audio_policy/cabinaudiopolicy/AudioContentType;" (.ref ct2) := Sta.start evct2 (Or.inr ⟨hw _ (List.mem_of_getElem? (i := 56) rfl), hw _ (List.mem_of_getElem? (i := 62) rfl)⟩)
  have xct2 : Exa s s.heap ct2 "com/example/cabin_audio_policy/cabinaudiopolicy/AudioContentType" := Exa.start evct2 nw23
  obtain ⟨ct3, evct3⟩ := exa_v nw24
  have sct3 : Sta s s.heap "com/example/cabin_audio_policy/cabinaudiopolicy/AudioContentType" "MOVIE" "Lcom/example/cabin_audio_policy/cabinaudiopolicy/AudioContentType;" (.ref ct3) := Sta.start evct3 (Or.inr ⟨hw _ (List.mem_of_getElem? (i := 56) rfl), hw _ (List.mem_of_getElem? (i := 64) rfl)⟩)
  have xct3 : Exa s s.heap ct3 "com/example/cabin_audio_policy/cabinaudiopolicy/AudioContentType" := Exa.start evct3 nw24
  obtain ⟨ct4, evct4⟩ := exa_v nw25
  have sct4 : Sta s s.heap "com/example/cabin_audio_policy/cabinaudiopolicy/AudioContentType" "SONIFICATION" "Lcom/example/cabin_audio_policy/cabinaudiopolicy/AudioContentType;" (.ref ct4) := Sta.start evct4 (Or.inr ⟨hw _ (List.mem_of_getElem? (i := 56) rfl), hw _ (List.mem_of_getElem? (i := 66) rfl)⟩)
  have xct4 : Exa s s.heap ct4 "com/example/cabin_audio_policy/cabinaudiopolicy/AudioContentType" := Exa.start evct4 nw25
  obtain ⟨ct5, evct5⟩ := exa_v nw26
  have sct5 : Sta s s.heap "com/example/cabin_audio_policy/cabinaudiopolicy/AudioContentType" "ULTRASOUND" "Lcom/example/cabin_audio_policy/cabinaudiopolicy/AudioContentType;" (.ref ct5) := Sta.start evct5 (Or.inr ⟨hw _ (List.mem_of_getElem? (i := 56) rfl), hw _ (List.mem_of_getElem? (i := 68) rfl)⟩)
  have xct5 : Exa s s.heap ct5 "com/example/cabin_audio_policy/cabinaudiopolicy/AudioContentType" := Exa.start evct5 nw26
  have ou0 : Fld s s.heap u0 "java/lang/Enum" "ordinal" "I" (.int (0 : Int32)) := own_fld evu0 nw27
  have ou1 : Fld s s.heap u1 "java/lang/Enum" "ordinal" "I" (.int (1 : Int32)) := own_fld evu1 nw36
  have ou2 : Fld s s.heap u2 "java/lang/Enum" "ordinal" "I" (.int (2 : Int32)) := own_fld evu2 nw35
  have ou3 : Fld s s.heap u3 "java/lang/Enum" "ordinal" "I" (.int (3 : Int32)) := own_fld evu3 nw28
  have ou4 : Fld s s.heap u4 "java/lang/Enum" "ordinal" "I" (.int (4 : Int32)) := own_fld evu4 nw29
  have ou5 : Fld s s.heap u5 "java/lang/Enum" "ordinal" "I" (.int (5 : Int32)) := own_fld evu5 nw30
  have ou6 : Fld s s.heap u6 "java/lang/Enum" "ordinal" "I" (.int (6 : Int32)) := own_fld evu6 nw38
  have ou7 : Fld s s.heap u7 "java/lang/Enum" "ordinal" "I" (.int (7 : Int32)) := own_fld evu7 nw33
  have ou8 : Fld s s.heap u8 "java/lang/Enum" "ordinal" "I" (.int (8 : Int32)) := own_fld evu8 nw42
  have ou9 : Fld s s.heap u9 "java/lang/Enum" "ordinal" "I" (.int (9 : Int32)) := own_fld evu9 nw45
  have ou10 : Fld s s.heap u10 "java/lang/Enum" "ordinal" "I" (.int (10 : Int32)) := own_fld evu10 nw32
  have ou11 : Fld s s.heap u11 "java/lang/Enum" "ordinal" "I" (.int (11 : Int32)) := own_fld evu11 nw43
  have ou12 : Fld s s.heap u12 "java/lang/Enum" "ordinal" "I" (.int (12 : Int32)) := own_fld evu12 nw34
  have ou13 : Fld s s.heap u13 "java/lang/Enum" "ordinal" "I" (.int (13 : Int32)) := own_fld evu13 nw46
  have ou14 : Fld s s.heap u14 "java/lang/Enum" "ordinal" "I" (.int (14 : Int32)) := own_fld evu14 nw37
  have ou15 : Fld s s.heap u15 "java/lang/Enum" "ordinal" "I" (.int (15 : Int32)) := own_fld evu15 nw39
  have ou16 : Fld s s.heap u16 "java/lang/Enum" "ordinal" "I" (.int (16 : Int32)) := own_fld evu16 nw31
  have ou17 : Fld s s.heap u17 "java/lang/Enum" "ordinal" "I" (.int (17 : Int32)) := own_fld evu17 nw47
  have ou18 : Fld s s.heap u18 "java/lang/Enum" "ordinal" "I" (.int (18 : Int32)) := own_fld evu18 nw44
  have ou19 : Fld s s.heap u19 "java/lang/Enum" "ordinal" "I" (.int (19 : Int32)) := own_fld evu19 nw41
  have ou20 : Fld s s.heap u20 "java/lang/Enum" "ordinal" "I" (.int (20 : Int32)) := own_fld evu20 nw40
  have hUx : ∀ a, a < 21 → Exa s s.heap (([u0, u1, u2, u3, u4, u5, u6, u7, u8, u9, u10, u11, u12, u13, u14, u15, u16, u17, u18, u19, u20] : List Addr).getD a 0) "com/example/cabin_audio_policy/cabinaudiopolicy/AudioUsage" := fun a ha => match a, ha with
    | 0, _ => xu0
    | 1, _ => xu1
    | 2, _ => xu2
    | 3, _ => xu3
    | 4, _ => xu4
    | 5, _ => xu5
    | 6, _ => xu6
    | 7, _ => xu7
    | 8, _ => xu8
    | 9, _ => xu9
    | 10, _ => xu10
    | 11, _ => xu11
    | 12, _ => xu12
    | 13, _ => xu13
    | 14, _ => xu14
    | 15, _ => xu15
    | 16, _ => xu16
    | 17, _ => xu17
    | 18, _ => xu18
    | 19, _ => xu19
    | 20, _ => xu20
    | _ + 21, h => absurd h (by omega)
  have hUo : ∀ a, a < 21 → Fld s s.heap (([u0, u1, u2, u3, u4, u5, u6, u7, u8, u9, u10, u11, u12, u13, u14, u15, u16, u17, u18, u19, u20] : List Addr).getD a 0) "java/lang/Enum" "ordinal" "I" (.int (Int32.ofNat a)) := fun a ha => match a, ha with
    | 0, _ => ou0
    | 1, _ => ou1
    | 2, _ => ou2
    | 3, _ => ou3
    | 4, _ => ou4
    | 5, _ => ou5
    | 6, _ => ou6
    | 7, _ => ou7
    | 8, _ => ou8
    | 9, _ => ou9
    | 10, _ => ou10
    | 11, _ => ou11
    | 12, _ => ou12
    | 13, _ => ou13
    | 14, _ => ou14
    | 15, _ => ou15
    | 16, _ => ou16
    | 17, _ => ou17
    | 18, _ => ou18
    | 19, _ => ou19
    | 20, _ => ou20
    | _ + 21, h => absurd h (by omega)
  have hCx : ∀ a, a < 6 → Exa s s.heap (([ct0, ct1, ct2, ct3, ct4, ct5] : List Addr).getD a 0) "com/example/cabin_audio_policy/cabinaudiopolicy/AudioContentType" := fun a ha => match a, ha with
    | 0, _ => xct0
    | 1, _ => xct1
    | 2, _ => xct2
    | 3, _ => xct3
    | 4, _ => xct4
    | 5, _ => xct5
    | _ + 6, h => absurd h (by omega)
  obtain ⟨n, o, h1, h2, h3, _, L, rfl, ⟨rfl, N⟩, hq⟩ := rm0 l s _ hw tables_1 i0 i1 i2 i3 i4 u0 u1 u2 u3 u4 u5 u6 u7 u8 u9 u10 u11 u12 u13 u14 u15 u16 u17 u18 u19 u20 ct0 ct1 ct2 ct3 ct4 ct5 G1 s.heap s.heap.size (Nat.le_refl _) su0 xu0 su1 xu1 su2 xu2 su3 xu3 su4 xu4 su5 xu5 su6 xu6 su7 xu7 su8 xu8 su9 xu9 su10 xu10 su11 xu11 su12 xu12 su13 xu13 su14 xu14 su15 xu15 su16 xu16 su17 xu17 su18 xu18 su19 xu19 su20 xu20 sct0 xct0 sct1 xct1 sct2 xct2 sct3 xct3 sct4 xct4 sct5 xct5 hUx hUo hCx O2 P5 (Old.start s) p e ha hc hk s m _ below hf ((Spec.applies_iff_loose hf).mp happ).1 ⟨rfl, State.Warmed39.refl s, rfl⟩ trivial
  refine ⟨n, _, h1, h2, h3, hpost _ _ _ _ _ _ ⟨Cond.after_iff.mpr rfl, Cond.after_iff.mpr (eq_i res_at (Term.int_eval (1)) rfl), trivial⟩ ⟨hq.1, hq.2.1, (hq.2.2.sift fun y hy => Or.inr (N y hy)).mono (by decide) (by decide)⟩⟩
theorem main_1_1 : Claimed_1_1 := comes_1 fun _ _ _ _ _ _ h hF => ⟨h.1, hF⟩
theorem main_1_2 : Claimed_1_2 := comes_1 fun _ _ _ _ _ _ h hF => ⟨h.2.1, hF⟩
end Jvm.Pilot.@@N@@
namespace Jvm.Pilot.@@N@@
open Jvm Jvm.ClassFile Sem Op Lib Jvm.Free Jvm.Stand Jvm.Pilot.@@N@@.Jvm.D
/-! MADE BY PROGRAM (witnessworld.py) out of the Statement's table words and the real class files: 26 classes; the members and pool entries that the words name. The judged class is class 1, her method 3. -/
namespace start1
open Jvm.ClassFile
def u (s : String) : CpInfo := .utf8 (stringToUtf16 s)
/-- a pool by its gaps: so many unusable entries, then the entry; so many at the end -/
def gap : Nat → List CpInfo → List CpInfo
  | 0, r => r
  | n + 1, r => .unusable :: gap n r
def poolList (es : List (Nat × CpInfo)) (last : Nat) : List CpInfo := es.foldr (fun e r => gap e.1 (e.2 :: r)) (gap last [])
def pool (es : List (Nat × CpInfo)) (last : Nat) : Array CpInfo := ⟨poolList es last⟩
def fileOf (pool : Array CpInfo) (this : Nat) (attrs : Array Attribute := #[]) (ms : Array MethodInfo := #[]) (fl : Nat := 33) (sup : Nat := 0) (ifs : Array Nat := #[]) (fds : Array FieldInfo := #[]) : ClassFile where
  minorVersion := 0
  majorVersion := 65
  constantPool := pool
  accessFlags := fl
  thisClass := this
  superClass := sup
  interfaces := ifs
  fields := fds
  methods := ms
  attributes := attrs
def plain (name : String) (sup : Option ClassId) : Class where
  name := name
  kind := .ordinary
  loader := none
  accessFlags := 33
  super := sup
  interfaces := #[]
  cf := none
  fields := #[]
  methods := #[]
  instanceTypes := #[]
  staticTypes := #[]
  resolved := #[]
  callSites := []
  init := .initialized
  statics := none
  mirror := none

def pool0 : Array CpInfo := pool [(5, u "<init>"), (0, u "()V"), (1, .class_ 10), (1, u "java/lang/Object")] 113

def k0c0 : Code := { maxStack := 0, maxLocals := 1, code := object_method_1_code, exceptionTable := #[], attributes := #[] }
def k0m0 : Method := { name := "<init>", desc := "()V", sig := { parameters := [], returnType := none }, accessFlags := 1, code := some k0c0 }
/-- java/lang/Object -/
def k0 : Class := { plain "java/lang/Object" none with
  accessFlags := 33
  interfaces := #[]
  cf := some (fileOf pool0 8 #[] #[{ accessFlags := 1, nameIndex := 5, descriptorIndex := 6, attributes := #[] }] 33 0 #[] #[])
  fields := #[]
  methods := #[k0m0]
  instanceTypes := #[]
  staticTypes := #[]
  resolved := Array.replicate 124 none
  statics := none }

def pool1 : Array CpInfo := pool [(2, .class_ 4), (1, u "java/lang/Object"), (0, u "<init>"), (0, u "()V"), (0, .class_ 8), (0, u "com/example/cabin_audio_policy/cabinaudiopolicy/AudioUsage"), (0, .fieldref 7 10), (0, .nameAndType 11 12), (0, u "UNKNOWN"), (0, u "Lcom/example/cabin_audio_policy/cabinaudiopolicy/AudioUsage;"), (0, .fieldref 7 14), (0, .nameAndType 15 12), (0, u "MEDIA"), (0, .fieldref 7 17), (0, .nameAndType 18 12), (0, u "GAME"), (0, .fieldref 7 20), (0, .nameAndType 21 12), (0, u "ASSISTANCE_NAVIGATION_GUIDANCE"), (0, .fieldref 7 23), (0, .nameAndType 24 12), (0, u "ASSISTANT"), (0, .fieldref 7 26), (0, .nameAndType 27 12), (0, u "ASSISTANCE_ACCESSIBILITY"), (0, .fieldref 7 29), (0, .nameAndType 30 12), (0, u "NOTIFICATION_TELEPHONY_RINGTONE"), (0, .fieldref 7 32), (0, .nameAndType 33 12), (0, u "VOICE_COMMUNICATION"), (0, .fieldref 7 35), (0, .nameAndType 36 12), (0, u "CALL_ASSISTANT"), (0, .fieldref 7 38), (0, .nameAndType 39 12), (0, u "VOICE_COMMUNICATION_SIGNALLING"), (0, .fieldref 7 41), (0, .nameAndType 42 12), (0, u "ALARM"), (0, .fieldref 7 44), (0, .nameAndType 45 12), (0, u "NOTIFICATION"), (0, .fieldref 7 47), (0, .nameAndType 48 12), (0, u "NOTIFICATION_EVENT"), (0, .fieldref 7 50), (0, .nameAndType 51 12), (0, u "NOTIFICATION_COMMUNICATION_REQUEST"), (0, .fieldref 7 53), (0, .nameAndType 54 12), (0, u "NOTIFICATION_COMMUNICATION_INSTANT"), (0, .fieldref 7 56), (0, .nameAndType 57 12), (0, u "NOTIFICATION_COMMUNICATION_DELAYED"), (0, .fieldref 7 59), (0, .nameAndType 60 12), (0, u "ASSISTANCE_SONIFICATION"), (0, .fieldref 7 62), (0, .nameAndType 63 12), (0, u "EMERGENCY"), (0, .fieldref 7 65), (0, .nameAndType 66 12), (0, u "SAFETY"), (0, .fieldref 7 68), (0, .nameAndType 69 12), (0, u "VEHICLE_STATUS"), (0, .fieldref 7 71), (0, .nameAndType 72 12), (0, u "ANNOUNCEMENT"), (0, .class_ 74), (0, u "com/example/cabin_audio_policy/cabinaudiopolicy/AudioContentType"), (0, .fieldref 73 76), (0, .nameAndType 11 77), (0, u "Lcom/example/cabin_audio_policy/cabinaudiopolicy/AudioContentType;"), (0, .fieldref 73 79), (0, .nameAndType 80 77), (0, u "SPEECH"), (0, .fieldref 73 82), (0, .nameAndType 83 77), (0, u "MUSIC"), (0, .fieldref 73 85), (0, .nameAndType 86 77), (0, u "MOVIE"), (0, .fieldref 73 88), (0, .nameAndType 89 77), (0, u "SONIFICATION"), (0, .fieldref 73 91), (0, .nameAndType 92 77), (0, u "ULTRASOUND"), (0, .methodref 94 95), (0, .class_ 96), (0, .nameAndType 97 98), (0, u "com/example/cabin_audio_policy/cabinaudiopolicy/AudioAttributesOfPinLaw"), (0, u "usages"), (0, u "()[Lcom/example/cabin_audio_policy/cabinaudiopolicy/AudioUsage;"), (0, .methodref 94 100), (0, .nameAndType 101 102), (0, u "contentTypes"), (0, u "()[Lcom/example/cabin_audio_policy/cabinaudiopolicy/AudioContentType;"), (0, .integer 2147483647), (0, .class_ 105), (0, u "java/lang/String"), (0, .methodref 104 107), (0, .nameAndType 5 108), (0, u "([C)V"), (0, .methodref 104 110), (0, .nameAndType 111 112), (0, u "valueOf"), (0, u "(C)Ljava/lang/String;"), (0, .methodref 114 115), (0, .class_ 116), (0, .nameAndType 117 118), (0, u "com/example/cabin_audio_policy/cabinaudiopolicy/AudioAttributes"), (0, u "of"), (0, u "(Lcom/example/cabin_audio_policy/cabinaudiopolicy/AudioUsage;)Lcom/example/cabin_audio_policy/cabinaudiopolicy/AudioAttributes;"), (0, .methodref 114 120), (0, .nameAndType 5 121), (0, u "(Lcom/example/cabin_audio_policy/cabinaudiopolicy/AudioUsage;Lcom/example/cabin_audio_policy/cabinaudiopolicy/AudioContentType;Ljava/lang/String;)V"), (0, .methodref 114 123), (0, .nameAndType 124 125), (0, u "equals"), (0, u "(Ljava/lang/Object;)Z"), (2, u "law"), (0, u "(IIIII)Z")] 9

def k1m0 : Method := { name := "<init>", desc := "()V", sig := { parameters := [], returnType := none }, accessFlags := 1, code := none }
def k1c1 : Code := { maxStack := 4, maxLocals := 0, code := method_2_code, exceptionTable := #[], attributes := #[] }
def k1m1 : Method := { name := "usages", desc := "()[Lcom/example/cabin_audio_policy/cabinaudiopolicy/AudioUsage;", sig := { parameters := [], returnType := some (.array (.object "com/example/cabin_audio_policy/cabinaudiopolicy/AudioUsage")) }, accessFlags := 10, code := some k1c1 }
def k1c2 : Code := { maxStack := 4, maxLocals := 0, code := method_3_code, exceptionTable := #[], attributes := #[] }
def k1m2 : Method := { name := "contentTypes", desc := "()[Lcom/example/cabin_audio_policy/cabinaudiopolicy/AudioContentType;", sig := { parameters := [], returnType := some (.array (.object "com/example/cabin_audio_policy/cabinaudiopolicy/AudioContentType")) }, accessFlags := 10, code := some k1c2 }
def k1c3 : Code := { maxStack := 5, maxLocals := 24, code := code, exceptionTable := #[], attributes := #[] }
def k1m3 : Method := { name := "law", desc := "(IIIII)Z", sig := { parameters := [.int, .int, .int, .int, .int], returnType := some .boolean }, accessFlags := 9, code := some k1c3 }
/-- com/example/cabin_audio_policy/cabinaudiopolicy/AudioAttributesOfPinLaw -/
def k1 : Class := { plain "com/example/cabin_audio_policy/cabinaudiopolicy/AudioAttributesOfPinLaw" (some 0) with
  accessFlags := 49
  interfaces := #[]
  cf := some (fileOf pool1 94 #[] #[{ accessFlags := 1, nameIndex := 5, descriptorIndex := 6, attributes := #[] }, { accessFlags := 10, nameIndex := 97, descriptorIndex := 98, attributes := #[] }, { accessFlags := 10, nameIndex := 101, descriptorIndex := 102, attributes := #[] }, { accessFlags := 9, nameIndex := 128, descriptorIndex := 129, attributes := #[] }] 49 2 #[] #[])
  fields := #[]
  methods := #[k1m0, k1m1, k1m2, k1m3]
  instanceTypes := #[]
  staticTypes := #[]
  resolved := Array.replicate 139 none
  statics := none }

def pool2 : Array CpInfo := pool [(1, .class_ 2), (0, u "java/lang/constant/Constable"), (0, .class_ 4), (0, u "java/lang/Object")] 6

/-- java/lang/constant/Constable -/
def k2 : Class := { plain "java/lang/constant/Constable" (some 0) with
  accessFlags := 1537
  interfaces := #[]
  cf := some (fileOf pool2 1 #[] #[] 1537 3 #[] #[])
  fields := #[]
  methods := #[]
  instanceTypes := #[]
  staticTypes := #[]
  resolved := Array.replicate 11 none
  statics := none }

def pool3 : Array CpInfo := pool [(1, .class_ 2), (0, u "java/lang/Comparable"), (0, .class_ 4), (0, u "java/lang/Object")] 7

/-- java/lang/Comparable -/
def k3 : Class := { plain "java/lang/Comparable" (some 0) with
  accessFlags := 1537
  interfaces := #[]
  cf := some (fileOf pool3 1 #[] #[] 1537 3 #[] #[])
  fields := #[]
  methods := #[]
  instanceTypes := #[]
  staticTypes := #[]
  resolved := Array.replicate 12 none
  statics := none }

def pool4 : Array CpInfo := pool [(1, .class_ 2), (0, u "java/io/Serializable"), (0, .class_ 4), (0, u "java/lang/Object")] 2

/-- java/io/Serializable -/
def k4 : Class := { plain "java/io/Serializable" (some 0) with
  accessFlags := 1537
  interfaces := #[]
  cf := some (fileOf pool4 1 #[] #[] 1537 3 #[] #[])
  fields := #[]
  methods := #[]
  instanceTypes := #[]
  staticTypes := #[]
  resolved := Array.replicate 7 none
  statics := none }

def pool5 : Array CpInfo := pool [(2, .class_ 4), (1, u "java/lang/Enum"), (0, u "name"), (0, u "Ljava/lang/String;"), (2, u "ordinal"), (0, u "I"), (1, .class_ 14), (1, u "java/lang/Object"), (4, u "hash"), (86, .class_ 108), (1, u "java/lang/Enum$EnumDesc"), (2, .class_ 112), (0, u "java/lang/constant/Constable"), (0, .class_ 114), (0, u "java/lang/Comparable"), (0, .class_ 116), (0, u "java/io/Serializable")] 87

/-- java/lang/Enum -/
def k5 : Class := { plain "java/lang/Enum" (some 0) with
  accessFlags := 1057
  interfaces := #[2, 3, 4]
  cf := some (fileOf pool5 2 #[.nestMembers #[106]] #[] 1057 12 #[111, 113, 115] #[{ accessFlags := 18, nameIndex := 5, descriptorIndex := 6, attributes := #[] }, { accessFlags := 18, nameIndex := 9, descriptorIndex := 10, attributes := #[] }, { accessFlags := 2, nameIndex := 19, descriptorIndex := 10, attributes := #[] }])
  fields := #[{ name := "name", type := (.object "java/lang/String"), accessFlags := 18, slot := 0, constantValue := 0 }, { name := "ordinal", type := .int, accessFlags := 18, slot := 1, constantValue := 0 }, { name := "hash", type := .int, accessFlags := 2, slot := 2, constantValue := 0 }]
  methods := #[]
  instanceTypes := #[(.object "java/lang/String"), .int, .int]
  staticTypes := #[]
  resolved := Array.replicate 204 none
  statics := none }

def pool6 : Array CpInfo := pool [(1, .class_ 2), (0, u "com/example/cabin_audio_policy/cabinaudiopolicy/AudioUsage"), (2, u "UNKNOWN"), (0, u "Lcom/example/cabin_audio_policy/cabinaudiopolicy/AudioUsage;"), (2, u "MEDIA"), (2, u "GAME"), (2, u "ASSISTANCE_NAVIGATION_GUIDANCE"), (2, u "ASSISTANT"), (2, u "ASSISTANCE_ACCESSIBILITY"), (2, u "NOTIFICATION_TELEPHONY_RINGTONE"), (2, u "VOICE_COMMUNICATION"), (2, u "CALL_ASSISTANT"), (2, u "VOICE_COMMUNICATION_SIGNALLING"), (2, u "ALARM"), (2, u "NOTIFICATION"), (2, u "NOTIFICATION_EVENT"), (2, u "NOTIFICATION_COMMUNICATION_REQUEST"), (2, u "NOTIFICATION_COMMUNICATION_INSTANT"), (2, u "NOTIFICATION_COMMUNICATION_DELAYED"), (2, u "ASSISTANCE_SONIFICATION"), (2, u "EMERGENCY"), (2, u "SAFETY"), (2, u "VEHICLE_STATUS"), (2, u "ANNOUNCEMENT"), (2, u "$VALUES"), (0, u "[Lcom/example/cabin_audio_policy/cabinaudiopolicy/AudioUsage;"), (6, .class_ 79), (1, u "java/lang/Enum"), (8, u "context"), (0, u "Lcom/example/cabin_audio_policy/cabinaudiopolicy/AudioContext;"), (2, u "fallback"), (16, u "BY_NAME"), (0, u "Ljava/util/Map;"), (109, u "CONFIG_PREFIX"), (0, u "Ljava/lang/String;")] 34

/-- com/example/cabin_audio_policy/cabinaudiopolicy/AudioUsage -/
def k6 : Class := { plain "com/example/cabin_audio_policy/cabinaudiopolicy/AudioUsage" (some 5) with
  accessFlags := 16433
  interfaces := #[]
  cf := some (fileOf pool6 1 #[] #[] 16433 77 #[] #[{ accessFlags := 16409, nameIndex := 5, descriptorIndex := 6, attributes := #[] }, { accessFlags := 16409, nameIndex := 9, descriptorIndex := 6, attributes := #[] }, { accessFlags := 16409, nameIndex := 12, descriptorIndex := 6, attributes := #[] }, { accessFlags := 16409, nameIndex := 15, descriptorIndex := 6, attributes := #[] }, { accessFlags := 16409, nameIndex := 18, descriptorIndex := 6, attributes := #[] }, { accessFlags := 16409, nameIndex := 21, descriptorIndex := 6, attributes := #[] }, { accessFlags := 16409, nameIndex := 24, descriptorIndex := 6, attributes := #[] }, { accessFlags := 16409, nameIndex := 27, descriptorIndex := 6, attributes := #[] }, { accessFlags := 16409, nameIndex := 30, descriptorIndex := 6, attributes := #[] }, { accessFlags := 16409, nameIndex := 33, descriptorIndex := 6, attributes := #[] }, { accessFlags := 16409, nameIndex := 36, descriptorIndex := 6, attributes := #[] }, { accessFlags := 16409, nameIndex := 39, descriptorIndex := 6, attributes := #[] }, { accessFlags := 16409, nameIndex := 42, descriptorIndex := 6, attributes := #[] }, { accessFlags := 16409, nameIndex := 45, descriptorIndex := 6, attributes := #[] }, { accessFlags := 16409, nameIndex := 48, descriptorIndex := 6, attributes := #[] }, { accessFlags := 16409, nameIndex := 51, descriptorIndex := 6, attributes := #[] }, { accessFlags := 16409, nameIndex := 54, descriptorIndex := 6, attributes := #[] }, { accessFlags := 16409, nameIndex := 57, descriptorIndex := 6, attributes := #[] }, { accessFlags := 16409, nameIndex := 60, descriptorIndex := 6, attributes := #[] }, { accessFlags := 16409, nameIndex := 63, descriptorIndex := 6, attributes := #[] }, { accessFlags := 16409, nameIndex := 66, descriptorIndex := 6, attributes := #[] }, { accessFlags := 25, nameIndex := 220, descriptorIndex := 221, attributes := #[] }, { accessFlags := 26, nameIndex := 109, descriptorIndex := 110, attributes := #[] }, { accessFlags := 18, nameIndex := 88, descriptorIndex := 89, attributes := #[] }, { accessFlags := 18, nameIndex := 92, descriptorIndex := 6, attributes := #[] }, { accessFlags := 4122, nameIndex := 69, descriptorIndex := 70, attributes := #[] }])
  fields := #[{ name := "UNKNOWN", type := (.object "com/example/cabin_audio_policy/cabinaudiopolicy/AudioUsage"), accessFlags := 16409, slot := 0, constantValue := 0 }, { name := "MEDIA", type := (.object "com/example/cabin_audio_policy/cabinaudiopolicy/AudioUsage"), accessFlags := 16409, slot := 1, constantValue := 0 }, { name := "GAME", type := (.object "com/example/cabin_audio_policy/cabinaudiopolicy/AudioUsage"), accessFlags := 16409, slot := 2, constantValue := 0 }, { name := "ASSISTANCE_NAVIGATION_GUIDANCE", type := (.object "com/example/cabin_audio_policy/cabinaudiopolicy/AudioUsage"), accessFlags := 16409, slot := 3, constantValue := 0 }, { name := "ASSISTANT", type := (.object "com/example/cabin_audio_policy/cabinaudiopolicy/AudioUsage"), accessFlags := 16409, slot := 4, constantValue := 0 }, { name := "ASSISTANCE_ACCESSIBILITY", type := (.object "com/example/cabin_audio_policy/cabinaudiopolicy/AudioUsage"), accessFlags := 16409, slot := 5, constantValue := 0 }, { name := "NOTIFICATION_TELEPHONY_RINGTONE", type := (.object "com/example/cabin_audio_policy/cabinaudiopolicy/AudioUsage"), accessFlags := 16409, slot := 6, constantValue := 0 }, { name := "VOICE_COMMUNICATION", type := (.object "com/example/cabin_audio_policy/cabinaudiopolicy/AudioUsage"), accessFlags := 16409, slot := 7, constantValue := 0 }, { name := "CALL_ASSISTANT", type := (.object "com/example/cabin_audio_policy/cabinaudiopolicy/AudioUsage"), accessFlags := 16409, slot := 8, constantValue := 0 }, { name := "VOICE_COMMUNICATION_SIGNALLING", type := (.object "com/example/cabin_audio_policy/cabinaudiopolicy/AudioUsage"), accessFlags := 16409, slot := 9, constantValue := 0 }, { name := "ALARM", type := (.object "com/example/cabin_audio_policy/cabinaudiopolicy/AudioUsage"), accessFlags := 16409, slot := 10, constantValue := 0 }, { name := "NOTIFICATION", type := (.object "com/example/cabin_audio_policy/cabinaudiopolicy/AudioUsage"), accessFlags := 16409, slot := 11, constantValue := 0 }, { name := "NOTIFICATION_EVENT", type := (.object "com/example/cabin_audio_policy/cabinaudiopolicy/AudioUsage"), accessFlags := 16409, slot := 12, constantValue := 0 }, { name := "NOTIFICATION_COMMUNICATION_REQUEST", type := (.object "com/example/cabin_audio_policy/cabinaudiopolicy/AudioUsage"), accessFlags := 16409, slot := 13, constantValue := 0 }, { name := "NOTIFICATION_COMMUNICATION_INSTANT", type := (.object "com/example/cabin_audio_policy/cabinaudiopolicy/AudioUsage"), accessFlags := 16409, slot := 14, constantValue := 0 }, { name := "NOTIFICATION_COMMUNICATION_DELAYED", type := (.object "com/example/cabin_audio_policy/cabinaudiopolicy/AudioUsage"), accessFlags := 16409, slot := 15, constantValue := 0 }, { name := "ASSISTANCE_SONIFICATION", type := (.object "com/example/cabin_audio_policy/cabinaudiopolicy/AudioUsage"), accessFlags := 16409, slot := 16, constantValue := 0 }, { name := "EMERGENCY", type := (.object "com/example/cabin_audio_policy/cabinaudiopolicy/AudioUsage"), accessFlags := 16409, slot := 17, constantValue := 0 }, { name := "SAFETY", type := (.object "com/example/cabin_audio_policy/cabinaudiopolicy/AudioUsage"), accessFlags := 16409, slot := 18, constantValue := 0 }, { name := "VEHICLE_STATUS", type := (.object "com/example/cabin_audio_policy/cabinaudiopolicy/AudioUsage"), accessFlags := 16409, slot := 19, constantValue := 0 }, { name := "ANNOUNCEMENT", type := (.object "com/example/cabin_audio_policy/cabinaudiopolicy/AudioUsage"), accessFlags := 16409, slot := 20, constantValue := 0 }, { name := "CONFIG_PREFIX", type := (.object "java/lang/String"), accessFlags := 25, slot := 21, constantValue := 0 }, { name := "BY_NAME", type := (.object "java/util/Map"), accessFlags := 26, slot := 22, constantValue := 0 }, { name := "context", type := (.object "com/example/cabin_audio_policy/cabinaudiopolicy/AudioContext"), accessFlags := 18, slot := 3, constantValue := 0 }, { name := "fallback", type := (.object "com/example/cabin_audio_policy/cabinaudiopolicy/AudioUsage"), accessFlags := 18, slot := 4, constantValue := 0 }, { name := "$VALUES", type := (.array (.object "com/example/cabin_audio_policy/cabinaudiopolicy/AudioUsage")), accessFlags := 4122, slot := 23, constantValue := 0 }]
  methods := #[]
  instanceTypes := #[(.object "java/lang/String"), .int, .int, (.object "com/example/cabin_audio_policy/cabinaudiopolicy/AudioContext"), (.object "com/example/cabin_audio_policy/cabinaudiopolicy/AudioUsage")]
  staticTypes := #[(.object "com/example/cabin_audio_policy/cabinaudiopolicy/AudioUsage"), (.object "com/example/cabin_audio_policy/cabinaudiopolicy/AudioUsage"), (.object "com/example/cabin_audio_policy/cabinaudiopolicy/AudioUsage"), (.object "com/example/cabin_audio_policy/cabinaudiopolicy/AudioUsage"), (.object "com/example/cabin_audio_policy/cabinaudiopolicy/AudioUsage"), (.object "com/example/cabin_audio_policy/cabinaudiopolicy/AudioUsage"), (.object "com/example/cabin_audio_policy/cabinaudiopolicy/AudioUsage"), (.object "com/example/cabin_audio_policy/cabinaudiopolicy/AudioUsage"), (.object "com/example/cabin_audio_policy/cabinaudiopolicy/AudioUsage"), (.object "com/example/cabin_audio_policy/cabinaudiopolicy/AudioUsage"), (.object "com/example/cabin_audio_policy/cabinaudiopolicy/AudioUsage"), (.object "com/example/cabin_audio_policy/cabinaudiopolicy/AudioUsage"), (.object "com/example/cabin_audio_policy/cabinaudiopolicy/AudioUsage"), (.object "com/example/cabin_audio_policy/cabinaudiopolicy/AudioUsage"), (.object "com/example/cabin_audio_policy/cabinaudiopolicy/AudioUsage"), (.object "com/example/cabin_audio_policy/cabinaudiopolicy/AudioUsage"), (.object "com/example/cabin_audio_policy/cabinaudiopolicy/AudioUsage"), (.object "com/example/cabin_audio_policy/cabinaudiopolicy/AudioUsage"), (.object "com/example/cabin_audio_policy/cabinaudiopolicy/AudioUsage"), (.object "com/example/cabin_audio_policy/cabinaudiopolicy/AudioUsage"), (.object "com/example/cabin_audio_policy/cabinaudiopolicy/AudioUsage"), (.object "java/lang/String"), (.object "java/util/Map"), (.array (.object "com/example/cabin_audio_policy/cabinaudiopolicy/AudioUsage"))]
  resolved := Array.replicate 256 none
  statics := some 0 }

def pool7 : Array CpInfo := pool [(1, .class_ 2), (0, u "com/example/cabin_audio_policy/cabinaudiopolicy/AudioContentType"), (2, u "UNKNOWN"), (0, u "Lcom/example/cabin_audio_policy/cabinaudiopolicy/AudioContentType;"), (2, u "SPEECH"), (2, u "MUSIC"), (2, u "MOVIE"), (2, u "SONIFICATION"), (2, u "ULTRASOUND"), (2, u "$VALUES"), (0, u "[Lcom/example/cabin_audio_policy/cabinaudiopolicy/AudioContentType;"), (6, .class_ 34), (1, u "java/lang/Enum"), (47, u "CONFIG_PREFIX"), (0, u "Ljava/lang/String;")] 32

/-- com/example/cabin_audio_policy/cabinaudiopolicy/AudioContentType -/
def k7 : Class := { plain "com/example/cabin_audio_policy/cabinaudiopolicy/AudioContentType" (some 5) with
  accessFlags := 16433
  interfaces := #[]
  cf := some (fileOf pool7 1 #[] #[] 16433 32 #[] #[{ accessFlags := 16409, nameIndex := 5, descriptorIndex := 6, attributes := #[] }, { accessFlags := 16409, nameIndex := 9, descriptorIndex := 6, attributes := #[] }, { accessFlags := 16409, nameIndex := 12, descriptorIndex := 6, attributes := #[] }, { accessFlags := 16409, nameIndex := 15, descriptorIndex := 6, attributes := #[] }, { accessFlags := 16409, nameIndex := 18, descriptorIndex := 6, attributes := #[] }, { accessFlags := 16409, nameIndex := 21, descriptorIndex := 6, attributes := #[] }, { accessFlags := 25, nameIndex := 82, descriptorIndex := 83, attributes := #[] }, { accessFlags := 4122, nameIndex := 24, descriptorIndex := 25, attributes := #[] }])
  fields := #[{ name := "UNKNOWN", type := (.object "com/example/cabin_audio_policy/cabinaudiopolicy/AudioContentType"), accessFlags := 16409, slot := 0, constantValue := 0 }, { name := "SPEECH", type := (.object "com/example/cabin_audio_policy/cabinaudiopolicy/AudioContentType"), accessFlags := 16409, slot := 1, constantValue := 0 }, { name := "MUSIC", type := (.object "com/example/cabin_audio_policy/cabinaudiopolicy/AudioContentType"), accessFlags := 16409, slot := 2, constantValue := 0 }, { name := "MOVIE", type := (.object "com/example/cabin_audio_policy/cabinaudiopolicy/AudioContentType"), accessFlags := 16409, slot := 3, constantValue := 0 }, { name := "SONIFICATION", type := (.object "com/example/cabin_audio_policy/cabinaudiopolicy/AudioContentType"), accessFlags := 16409, slot := 4, constantValue := 0 }, { name := "ULTRASOUND", type := (.object "com/example/cabin_audio_policy/cabinaudiopolicy/AudioContentType"), accessFlags := 16409, slot := 5, constantValue := 0 }, { name := "CONFIG_PREFIX", type := (.object "java/lang/String"), accessFlags := 25, slot := 6, constantValue := 0 }, { name := "$VALUES", type := (.array (.object "com/example/cabin_audio_policy/cabinaudiopolicy/AudioContentType")), accessFlags := 4122, slot := 7, constantValue := 0 }]
  methods := #[]
  instanceTypes := #[(.object "java/lang/String"), .int, .int]
  staticTypes := #[(.object "com/example/cabin_audio_policy/cabinaudiopolicy/AudioContentType"), (.object "com/example/cabin_audio_policy/cabinaudiopolicy/AudioContentType"), (.object "com/example/cabin_audio_policy/cabinaudiopolicy/AudioContentType"), (.object "com/example/cabin_audio_policy/cabinaudiopolicy/AudioContentType"), (.object "com/example/cabin_audio_policy/cabinaudiopolicy/AudioContentType"), (.object "com/example/cabin_audio_policy/cabinaudiopolicy/AudioContentType"), (.object "java/lang/String"), (.array (.object "com/example/cabin_audio_policy/cabinaudiopolicy/AudioContentType"))]
  resolved := Array.replicate 116 none
  statics := some 1 }

def pool8 : Array CpInfo := pool [(2, .class_ 4), (1, u "java/lang/CharSequence"), (42, .class_ 48), (0, u "java/lang/CharSequence$1CodePointIterator"), (10, .class_ 60), (0, u "java/lang/CharSequence$1CharIterator"), (5, .class_ 67), (0, u "java/lang/Object")] 63

/-- java/lang/CharSequence -/
def k8 : Class := { plain "java/lang/CharSequence" (some 0) with
  accessFlags := 1537
  interfaces := #[]
  cf := some (fileOf pool8 2 #[.nestMembers #[47, 59]] #[] 1537 66 #[] #[])
  fields := #[]
  methods := #[]
  instanceTypes := #[]
  staticTypes := #[]
  resolved := Array.replicate 131 none
  statics := none }

def pool9 : Array CpInfo := pool [(1, .class_ 2), (0, u "java/lang/constant/ConstantDesc"), (0, .class_ 4), (0, u "java/lang/Object")] 32

/-- java/lang/constant/ConstantDesc -/
def k9 : Class := { plain "java/lang/constant/ConstantDesc" (some 0) with
  accessFlags := 1537
  interfaces := #[]
  cf := some (fileOf pool9 1 #[] #[] 1537 3 #[] #[])
  fields := #[]
  methods := #[]
  instanceTypes := #[]
  staticTypes := #[]
  resolved := Array.replicate 37 none
  statics := none }

def pool10 : Array CpInfo := pool [(1, .methodref 2 3), (0, .class_ 4), (0, .nameAndType 5 6), (0, u "java/lang/Object"), (0, u "<init>"), (0, u "()V"), (2, .fieldref 10 11), (0, .class_ 12), (0, .nameAndType 13 14), (0, u "java/lang/String"), (0, u "value"), (0, u "[B"), (0, .fieldref 10 16), (0, .nameAndType 17 18), (0, u "coder"), (0, u "B"), (2, u "hash"), (0, u "I"), (2, u "hashIsZero"), (0, u "Z"), (0, .methodref 10 28), (0, .nameAndType 5 29), (0, u "([CIILjava/lang/Void;)V"), (8, .fieldref 10 39), (0, .nameAndType 40 26), (0, u "COMPACT_STRINGS"), (1, .class_ 44), (1, u "java/lang/StringUTF16"), (0, u "compress"), (1, .methodref 42 48), (0, .nameAndType 49 50), (0, u "coderFromArrayLen"), (0, u "([BI)B"), (2, u "toBytes"), (53, .class_ 109), (1, u "java/lang/StringLatin1"), (67, .methodref 42 178), (0, .nameAndType 45 179), (0, u "([CII)[B"), (29, .methodref 10 210), (0, .nameAndType 5 211), (0, u "([BB)V"), (157, u "(C)Z"), (205, .class_ 576), (0, u "java/lang/CharSequence"), (22, u "CASE_INSENSITIVE_ORDER"), (0, u "Ljava/util/Comparator;"), (181, u "valueOf"), (0, u "(C)Ljava/lang/String;"), (226, u "([C)V"), (4, .methodref 107 1016), (0, .nameAndType 1017 369), (0, u "canEncode"), (0, .methodref 107 1019), (0, .nameAndType 53 1020), (0, u "(C)[B"), (80, u "serialPersistentFields"), (0, u "[Ljava/io/ObjectStreamField;"), (0, .class_ 1104), (0, u "java/lang/String$CaseInsensitiveComparator"), (1, .class_ 1107), (0, u "java/io/Serializable"), (0, .class_ 1109), (0, u "java/lang/Comparable"), (0, .class_ 1111), (0, u "java/lang/constant/Constable"), (0, .class_ 1113), (0, u "java/lang/constant/ConstantDesc"), (2, u "serialVersionUID"), (0, u "J"), (3, u "REPL"), (0, u "C"), (2, u "LATIN1"), (1, u "UTF16")] 323

def k10m0 : Method := { name := "<init>", desc := "()V", sig := { parameters := [], returnType := none }, accessFlags := 1, code := none }
def k10c1 : Code := { maxStack := 5, maxLocals := 2, code := jdk_42_method_3_code, exceptionTable := #[], attributes := #[] }
def k10m1 : Method := { name := "<init>", desc := "([C)V", sig := { parameters := [(.array .char)], returnType := none }, accessFlags := 1, code := some k10c1 }
def k10c2 : Code := { maxStack := 4, maxLocals := 1, code := jdk_42_method_139_code, exceptionTable := #[], attributes := #[] }
def k10m2 : Method := { name := "valueOf", desc := "(C)Ljava/lang/String;", sig := { parameters := [.char], returnType := some (.object "java/lang/String") }, accessFlags := 9, code := some k10c2 }
def k10c3 : Code := { maxStack := 4, maxLocals := 6, code := jdk_42_method_149_code, exceptionTable := #[], attributes := #[] }
def k10m3 : Method := { name := "<init>", desc := "([CIILjava/lang/Void;)V", sig := { parameters := [(.array .char), .int, .int, (.object "java/lang/Void")], returnType := none }, accessFlags := 2, code := some k10c3 }
def k10c4 : Code := { maxStack := 2, maxLocals := 3, code := jdk_42_method_151_code, exceptionTable := #[], attributes := #[] }
def k10m4 : Method := { name := "<init>", desc := "([BB)V", sig := { parameters := [(.array .byte), .byte], returnType := none }, accessFlags := 0, code := some k10c4 }
/-- java/lang/String -/
def k10 : Class := { plain "java/lang/String" (some 0) with
  accessFlags := 49
  interfaces := #[4, 3, 8, 2, 9]
  cf := some (fileOf pool10 10 #[.nestMembers #[1103]] #[{ accessFlags := 1, nameIndex := 5, descriptorIndex := 6, attributes := #[] }, { accessFlags := 1, nameIndex := 5, descriptorIndex := 1010, attributes := #[] }, { accessFlags := 9, nameIndex := 782, descriptorIndex := 783, attributes := #[] }, { accessFlags := 2, nameIndex := 5, descriptorIndex := 29, attributes := #[] }, { accessFlags := 0, nameIndex := 5, descriptorIndex := 211, attributes := #[] }] 49 2 #[1106, 1108, 575, 1110, 1112] #[{ accessFlags := 18, nameIndex := 13, descriptorIndex := 14, attributes := #[] }, { accessFlags := 18, nameIndex := 17, descriptorIndex := 18, attributes := #[] }, { accessFlags := 2, nameIndex := 21, descriptorIndex := 22, attributes := #[] }, { accessFlags := 2, nameIndex := 25, descriptorIndex := 26, attributes := #[] }, { accessFlags := 26, nameIndex := 1116, descriptorIndex := 1117, attributes := #[] }, { accessFlags := 24, nameIndex := 40, descriptorIndex := 26, attributes := #[] }, { accessFlags := 26, nameIndex := 1101, descriptorIndex := 1102, attributes := #[] }, { accessFlags := 26, nameIndex := 1121, descriptorIndex := 1122, attributes := #[] }, { accessFlags := 25, nameIndex := 599, descriptorIndex := 600, attributes := #[] }, { accessFlags := 24, nameIndex := 1125, descriptorIndex := 18, attributes := #[] }, { accessFlags := 24, nameIndex := 1127, descriptorIndex := 18, attributes := #[] }])
  fields := #[{ name := "value", type := (.array .byte), accessFlags := 18, slot := 0, constantValue := 0 }, { name := "coder", type := .byte, accessFlags := 18, slot := 1, constantValue := 0 }, { name := "hash", type := .int, accessFlags := 2, slot := 2, constantValue := 0 }, { name := "hashIsZero", type := .boolean, accessFlags := 2, slot := 3, constantValue := 0 }, { name := "serialVersionUID", type := .long, accessFlags := 26, slot := 0, constantValue := 0 }, { name := "COMPACT_STRINGS", type := .boolean, accessFlags := 24, slot := 1, constantValue := 0 }, { name := "serialPersistentFields", type := (.array (.object "java/io/ObjectStreamField")), accessFlags := 26, slot := 2, constantValue := 0 }, { name := "REPL", type := .char, accessFlags := 26, slot := 3, constantValue := 0 }, { name := "CASE_INSENSITIVE_ORDER", type := (.object "java/util/Comparator"), accessFlags := 25, slot := 4, constantValue := 0 }, { name := "LATIN1", type := .byte, accessFlags := 24, slot := 5, constantValue := 0 }, { name := "UTF16", type := .byte, accessFlags := 24, slot := 6, constantValue := 0 }]
  methods := #[k10m0, k10m1, k10m2, k10m3, k10m4]
  instanceTypes := #[(.array .byte), .byte, .int, .boolean]
  staticTypes := #[.long, .boolean, (.array (.object "java/io/ObjectStreamField")), .char, (.object "java/util/Comparator"), .byte, .byte]
  resolved := Array.replicate 1451 none
  statics := some 2 }

def pool11 : Array CpInfo := pool [(4, .class_ 6), (1, u "java/lang/Object"), (0, u "<init>"), (0, u "()V"), (5, .class_ 16), (1, u "java/lang/StringLatin1"), (73, u "canEncode"), (14, u "(C)Z"), (15, u "$assertionsDisabled"), (0, u "Z"), (98, .class_ 223), (1, u "java/lang/StringLatin1$LinesSpliterator"), (156, u "toBytes"), (1, u "(C)[B"), (7, .class_ 391), (0, u "java/lang/StringLatin1$CharsSpliterator")] 3

def k11m0 : Method := { name := "<init>", desc := "()V", sig := { parameters := [], returnType := none }, accessFlags := 0, code := none }
def k11c1 : Code := { maxStack := 2, maxLocals := 1, code := jdk_43_method_3_code, exceptionTable := #[], attributes := #[] }
def k11m1 : Method := { name := "canEncode", desc := "(C)Z", sig := { parameters := [.char], returnType := some .boolean }, accessFlags := 9, code := some k11c1 }
def k11c2 : Code := { maxStack := 4, maxLocals := 1, code := jdk_43_method_46_code, exceptionTable := #[], attributes := #[] }
def k11m2 : Method := { name := "toBytes", desc := "(C)[B", sig := { parameters := [.char], returnType := some (.array .byte) }, accessFlags := 9, code := some k11c2 }
/-- java/lang/StringLatin1 -/
def k11 : Class := { plain "java/lang/StringLatin1" (some 0) with
  accessFlags := 48
  interfaces := #[]
  cf := some (fileOf pool11 14 #[.nestMembers #[390, 221]] #[{ accessFlags := 0, nameIndex := 7, descriptorIndex := 8, attributes := #[] }, { accessFlags := 9, nameIndex := 90, descriptorIndex := 105, attributes := #[] }, { accessFlags := 9, nameIndex := 380, descriptorIndex := 382, attributes := #[] }] 48 4 #[] #[{ accessFlags := 4120, nameIndex := 121, descriptorIndex := 122, attributes := #[] }])
  fields := #[{ name := "$assertionsDisabled", type := .boolean, accessFlags := 4120, slot := 0, constantValue := 0 }]
  methods := #[k11m0, k11m1, k11m2]
  instanceTypes := #[]
  staticTypes := #[.boolean]
  resolved := Array.replicate 395 none
  statics := none }

def pool12 : Array CpInfo := pool [(1, .methodref 2 3), (0, .class_ 4), (0, .nameAndType 5 6), (0, u "java/lang/Object"), (0, u "<init>"), (0, u "()V"), (0, .fieldref 8 9), (0, .class_ 10), (0, .nameAndType 11 12), (0, u "com/example/cabin_audio_policy/cabinaudiopolicy/AudioAttributes"), (0, u "usage"), (0, u "Lcom/example/cabin_audio_policy/cabinaudiopolicy/AudioUsage;"), (0, .fieldref 8 14), (0, .nameAndType 15 16), (0, u "contentType"), (0, u "Lcom/example/cabin_audio_policy/cabinaudiopolicy/AudioContentType;"), (0, .fieldref 8 18), (0, .nameAndType 19 20), (0, u "tags"), (0, u "Ljava/lang/String;"), (0, .methodref 22 23), (0, .class_ 24), (0, .nameAndType 25 26), (0, u "java/util/Objects"), (0, u "requireNonNull"), (0, u "(Ljava/lang/Object;)Ljava/lang/Object;"), (0, .class_ 28), (0, u "com/example/cabin_audio_policy/cabinaudiopolicy/AudioUsage"), (0, .methodref 8 30), (0, .nameAndType 5 31), (0, u "(Lcom/example/cabin_audio_policy/cabinaudiopolicy/AudioUsage;Lcom/example/cabin_audio_policy/cabinaudiopolicy/AudioContentType;Ljava/lang/String;)V"), (6, .methodref 22 39), (0, .nameAndType 40 41), (0, u "equals"), (0, u "(Ljava/lang/Object;Ljava/lang/Object;)Z"), (22, u "(Ljava/lang/Object;)Z"), (10, u "of"), (0, u "(Lcom/example/cabin_audio_policy/cabinaudiopolicy/AudioUsage;)Lcom/example/cabin_audio_policy/cabinaudiopolicy/AudioAttributes;")] 31

def k12c0 : Code := { maxStack := 2, maxLocals := 4, code := prog_1_method_1_code, exceptionTable := #[], attributes := #[] }
def k12m0 : Method := { name := "<init>", desc := "(Lcom/example/cabin_audio_policy/cabinaudiopolicy/AudioUsage;Lcom/example/cabin_audio_policy/cabinaudiopolicy/AudioContentType;Ljava/lang/String;)V", sig := { parameters := [(.object "com/example/cabin_audio_policy/cabinaudiopolicy/AudioUsage"), (.object "com/example/cabin_audio_policy/cabinaudiopolicy/AudioContentType"), (.object "java/lang/String")], returnType := none }, accessFlags := 1, code := some k12c0 }
def k12c1 : Code := { maxStack := 5, maxLocals := 1, code := prog_1_method_2_code, exceptionTable := #[], attributes := #[] }
def k12m1 : Method := { name := "of", desc := "(Lcom/example/cabin_audio_policy/cabinaudiopolicy/AudioUsage;)Lcom/example/cabin_audio_policy/cabinaudiopolicy/AudioAttributes;", sig := { parameters := [(.object "com/example/cabin_audio_policy/cabinaudiopolicy/AudioUsage")], returnType := some (.object "com/example/cabin_audio_policy/cabinaudiopolicy/AudioAttributes") }, accessFlags := 9, code := some k12c1 }
def k12c2 : Code := { maxStack := 2, maxLocals := 3, code := prog_1_method_6_code, exceptionTable := #[], attributes := #[] }
def k12m2 : Method := { name := "equals", desc := "(Ljava/lang/Object;)Z", sig := { parameters := [(.object "java/lang/Object")], returnType := some .boolean }, accessFlags := 1, code := some k12c2 }
/-- com/example/cabin_audio_policy/cabinaudiopolicy/AudioAttributes -/
def k12 : Class := { plain "com/example/cabin_audio_policy/cabinaudiopolicy/AudioAttributes" (some 0) with
  accessFlags := 49
  interfaces := #[]
  cf := some (fileOf pool12 8 #[] #[{ accessFlags := 1, nameIndex := 5, descriptorIndex := 31, attributes := #[] }, { accessFlags := 9, nameIndex := 75, descriptorIndex := 76, attributes := #[] }, { accessFlags := 1, nameIndex := 40, descriptorIndex := 64, attributes := #[] }] 49 2 #[] #[{ accessFlags := 18, nameIndex := 11, descriptorIndex := 12, attributes := #[] }, { accessFlags := 18, nameIndex := 15, descriptorIndex := 16, attributes := #[] }, { accessFlags := 18, nameIndex := 19, descriptorIndex := 20, attributes := #[] }])
  fields := #[{ name := "usage", type := (.object "com/example/cabin_audio_policy/cabinaudiopolicy/AudioUsage"), accessFlags := 18, slot := 0, constantValue := 0 }, { name := "contentType", type := (.object "com/example/cabin_audio_policy/cabinaudiopolicy/AudioContentType"), accessFlags := 18, slot := 1, constantValue := 0 }, { name := "tags", type := (.object "java/lang/String"), accessFlags := 18, slot := 2, constantValue := 0 }]
  methods := #[k12m0, k12m1, k12m2]
  instanceTypes := #[(.object "com/example/cabin_audio_policy/cabinaudiopolicy/AudioUsage"), (.object "com/example/cabin_audio_policy/cabinaudiopolicy/AudioContentType"), (.object "java/lang/String")]
  staticTypes := #[]
  resolved := Array.replicate 108 none
  statics := none }

def pool13 : Array CpInfo := pool [(2, .class_ 4), (1, u "java/lang/Object"), (0, u "<init>"), (0, u "()V"), (9, u "equals"), (6, u "(Ljava/lang/Object;Ljava/lang/Object;)Z"), (18, .class_ 44), (1, u "java/util/Objects"), (0, u "requireNonNull"), (0, u "(Ljava/lang/Object;)Ljava/lang/Object;")] 137

def k13m0 : Method := { name := "<init>", desc := "()V", sig := { parameters := [], returnType := none }, accessFlags := 2, code := none }
def k13c1 : Code := { maxStack := 2, maxLocals := 2, code := jdk_31_method_2_code, exceptionTable := #[], attributes := #[] }
def k13m1 : Method := { name := "equals", desc := "(Ljava/lang/Object;Ljava/lang/Object;)Z", sig := { parameters := [(.object "java/lang/Object"), (.object "java/lang/Object")], returnType := some .boolean }, accessFlags := 9, code := some k13c1 }
def k13c2 : Code := { maxStack := 2, maxLocals := 1, code := jdk_31_method_10_code, exceptionTable := #[], attributes := #[] }
def k13m2 : Method := { name := "requireNonNull", desc := "(Ljava/lang/Object;)Ljava/lang/Object;", sig := { parameters := [(.object "java/lang/Object")], returnType := some (.object "java/lang/Object") }, accessFlags := 9, code := some k13c2 }
/-- java/util/Objects -/
def k13 : Class := { plain "java/util/Objects" (some 0) with
  accessFlags := 49
  interfaces := #[]
  cf := some (fileOf pool13 42 #[] #[{ accessFlags := 2, nameIndex := 5, descriptorIndex := 6, attributes := #[] }, { accessFlags := 9, nameIndex := 16, descriptorIndex := 23, attributes := #[] }, { accessFlags := 9, nameIndex := 45, descriptorIndex := 46, attributes := #[] }] 49 2 #[] #[])
  fields := #[]
  methods := #[k13m0, k13m1, k13m2]
  instanceTypes := #[]
  staticTypes := #[]
  resolved := Array.replicate 184 none
  statics := none }

def pool14 : Array CpInfo := pool [(6, .class_ 8), (1, u "java/lang/Object"), (0, u "<init>"), (0, u "()V"), (1, .class_ 14), (1, u "java/lang/StringUTF16"), (31, u "$assertionsDisabled"), (0, u "Z"), (13, u "HI_BYTE_SHIFT"), (0, u "I"), (2, u "LO_BYTE_SHIFT"), (49, .methodref 12 116), (0, .nameAndType 117 118), (0, u "compress"), (0, u "([CI[BII)I"), (3, u "([CII)[B"), (138, u "coderFromArrayLen"), (0, u "([BI)B"), (106, .class_ 371), (1, u "java/lang/StringUTF16$LinesSpliterator"), (58, u "MAX_LENGTH"), (196, .class_ 628), (0, u "java/lang/StringUTF16$CodePointsSpliterator"), (0, .class_ 630), (0, u "java/lang/StringUTF16$CharsSpliterator")] 4

def k14m0 : Method := { name := "<init>", desc := "()V", sig := { parameters := [], returnType := none }, accessFlags := 0, code := none }
def k14c1 : Code := { maxStack := 2, maxLocals := 2, code := jdk_52_method_15_code, exceptionTable := #[], attributes := #[] }
def k14m1 : Method := { name := "coderFromArrayLen", desc := "([BI)B", sig := { parameters := [(.array .byte), .int], returnType := some .byte }, accessFlags := 8, code := some k14c1 }
def k14c2 : Code := { maxStack := 5, maxLocals := 6, code := jdk_52_method_16_code, exceptionTable := #[], attributes := #[] }
def k14m2 : Method := { name := "compress", desc := "([CII)[B", sig := { parameters := [(.array .char), .int, .int], returnType := some (.array .byte) }, accessFlags := 9, code := some k14c2 }
def k14c3 : Code := { maxStack := 3, maxLocals := 7, code := jdk_52_method_21_code, exceptionTable := #[], attributes := #[] }
def k14m3 : Method := { name := "compress", desc := "([CI[BII)I", sig := { parameters := [(.array .char), .int, (.array .byte), .int, .int], returnType := some .int }, accessFlags := 9, code := some k14c3 }
/-- java/lang/StringUTF16 -/
def k14 : Class := { plain "java/lang/StringUTF16" (some 0) with
  accessFlags := 48
  interfaces := #[]
  cf := some (fileOf pool14 12 #[.nestMembers #[627, 629, 369]] #[{ accessFlags := 0, nameIndex := 9, descriptorIndex := 10, attributes := #[] }, { accessFlags := 8, nameIndex := 261, descriptorIndex := 262, attributes := #[] }, { accessFlags := 9, nameIndex := 117, descriptorIndex := 122, attributes := #[] }, { accessFlags := 9, nameIndex := 117, descriptorIndex := 118, attributes := #[] }] 48 6 #[] #[{ accessFlags := 26, nameIndex := 61, descriptorIndex := 62, attributes := #[] }, { accessFlags := 26, nameIndex := 65, descriptorIndex := 62, attributes := #[] }, { accessFlags := 24, nameIndex := 430, descriptorIndex := 62, attributes := #[] }, { accessFlags := 4120, nameIndex := 46, descriptorIndex := 47, attributes := #[] }])
  fields := #[{ name := "HI_BYTE_SHIFT", type := .int, accessFlags := 26, slot := 0, constantValue := 0 }, { name := "LO_BYTE_SHIFT", type := .int, accessFlags := 26, slot := 1, constantValue := 0 }, { name := "MAX_LENGTH", type := .int, accessFlags := 24, slot := 2, constantValue := 0 }, { name := "$assertionsDisabled", type := .boolean, accessFlags := 4120, slot := 3, constantValue := 0 }]
  methods := #[k14m0, k14m1, k14m2, k14m3]
  instanceTypes := #[]
  staticTypes := #[.int, .int, .int, .boolean]
  resolved := Array.replicate 635 none
  statics := none }

def pool15 : Array CpInfo := pool [(2, .class_ 4), (1, u "java/lang/Object"), (0, u "<init>"), (0, u "()V"), (17, .class_ 26), (1, u "jdk/internal/util/Preconditions"), (28, .class_ 56), (0, u "jdk/internal/util/Preconditions$4"), (57, .class_ 115), (0, u "jdk/internal/util/Preconditions$1"), (7, u "SIOOBE_FORMATTER"), (0, u "Ljava/util/function/BiFunction;"), (0, .class_ 126), (0, u "jdk/internal/util/Preconditions$2"), (3, u "AIOOBE_FORMATTER"), (0, .class_ 132), (0, u "jdk/internal/util/Preconditions$3"), (3, u "IOOBE_FORMATTER")] 57

def k15m0 : Method := { name := "<init>", desc := "()V", sig := { parameters := [], returnType := none }, accessFlags := 1, code := none }
/-- jdk/internal/util/Preconditions -/
def k15 : Class := { plain "jdk/internal/util/Preconditions" (some 0) with
  accessFlags := 33
  interfaces := #[]
  cf := some (fileOf pool15 24 #[.nestMembers #[55, 131, 125, 114]] #[{ accessFlags := 1, nameIndex := 5, descriptorIndex := 6, attributes := #[] }] 33 2 #[] #[{ accessFlags := 25, nameIndex := 123, descriptorIndex := 124, attributes := #[] }, { accessFlags := 25, nameIndex := 130, descriptorIndex := 124, attributes := #[] }, { accessFlags := 25, nameIndex := 136, descriptorIndex := 124, attributes := #[] }])
  fields := #[{ name := "SIOOBE_FORMATTER", type := (.object "java/util/function/BiFunction"), accessFlags := 25, slot := 0, constantValue := 0 }, { name := "AIOOBE_FORMATTER", type := (.object "java/util/function/BiFunction"), accessFlags := 25, slot := 1, constantValue := 0 }, { name := "IOOBE_FORMATTER", type := (.object "java/util/function/BiFunction"), accessFlags := 25, slot := 2, constantValue := 0 }]
  methods := #[k15m0]
  instanceTypes := #[]
  staticTypes := #[(.object "java/util/function/BiFunction"), (.object "java/util/function/BiFunction"), (.object "java/util/function/BiFunction")]
  resolved := Array.replicate 194 none
  statics := some 3 }

def pool16 : Array CpInfo := pool [(9, u "<init>"), (6, .class_ 18), (1, u "java/lang/Object"), (0, u "()V"), (1, .class_ 23), (1, u "jdk/internal/util/ArraysSupport"), (0, u "LOG2_ARRAY_LONG_INDEX_SCALE"), (0, u "I"), (2, u "U"), (0, u "Ljdk/internal/misc/Unsafe;"), (8, u "BIG_ENDIAN"), (0, u "Z"), (8, u "LOG2_BYTE_BIT_SIZE"), (4, u "LOG2_ARRAY_INT_INDEX_SCALE"), (54, u "JLA"), (0, u "Ljdk/internal/access/JavaLangAccess;"), (11, u "LOG2_ARRAY_BOOLEAN_INDEX_SCALE"), (9, u "LOG2_ARRAY_BYTE_INDEX_SCALE"), (5, u "LOG2_ARRAY_CHAR_INDEX_SCALE"), (5, u "LOG2_ARRAY_SHORT_INDEX_SCALE"), (18, u "LOG2_ARRAY_FLOAT_INDEX_SCALE"), (24, u "LOG2_ARRAY_DOUBLE_INDEX_SCALE"), (89, u "T_BOOLEAN"), (2, u "T_CHAR"), (1, u "T_FLOAT"), (1, u "T_DOUBLE"), (1, u "T_BYTE"), (1, u "T_SHORT"), (1, u "T_INT"), (1, u "T_LONG"), (1, u "SOFT_MAX_ARRAY_LENGTH")] 83

def k16m0 : Method := { name := "<init>", desc := "()V", sig := { parameters := [], returnType := none }, accessFlags := 2, code := none }
/-- jdk/internal/util/ArraysSupport -/
def k16 : Class := { plain "jdk/internal/util/ArraysSupport" (some 0) with
  accessFlags := 33
  interfaces := #[]
  cf := some (fileOf pool16 21 #[] #[{ accessFlags := 2, nameIndex := 9, descriptorIndex := 19, attributes := #[] }] 33 16 #[] #[{ accessFlags := 24, nameIndex := 28, descriptorIndex := 29, attributes := #[] }, { accessFlags := 26, nameIndex := 38, descriptorIndex := 39, attributes := #[] }, { accessFlags := 25, nameIndex := 121, descriptorIndex := 25, attributes := #[] }, { accessFlags := 25, nameIndex := 131, descriptorIndex := 25, attributes := #[] }, { accessFlags := 25, nameIndex := 137, descriptorIndex := 25, attributes := #[] }, { accessFlags := 25, nameIndex := 143, descriptorIndex := 25, attributes := #[] }, { accessFlags := 25, nameIndex := 53, descriptorIndex := 25, attributes := #[] }, { accessFlags := 25, nameIndex := 24, descriptorIndex := 25, attributes := #[] }, { accessFlags := 25, nameIndex := 162, descriptorIndex := 25, attributes := #[] }, { accessFlags := 25, nameIndex := 187, descriptorIndex := 25, attributes := #[] }, { accessFlags := 26, nameIndex := 48, descriptorIndex := 25, attributes := #[] }, { accessFlags := 25, nameIndex := 277, descriptorIndex := 25, attributes := #[] }, { accessFlags := 25, nameIndex := 280, descriptorIndex := 25, attributes := #[] }, { accessFlags := 25, nameIndex := 282, descriptorIndex := 25, attributes := #[] }, { accessFlags := 25, nameIndex := 284, descriptorIndex := 25, attributes := #[] }, { accessFlags := 25, nameIndex := 286, descriptorIndex := 25, attributes := #[] }, { accessFlags := 25, nameIndex := 288, descriptorIndex := 25, attributes := #[] }, { accessFlags := 25, nameIndex := 290, descriptorIndex := 25, attributes := #[] }, { accessFlags := 25, nameIndex := 292, descriptorIndex := 25, attributes := #[] }, { accessFlags := 26, nameIndex := 108, descriptorIndex := 109, attributes := #[] }, { accessFlags := 25, nameIndex := 294, descriptorIndex := 25, attributes := #[] }])
  fields := #[{ name := "U", type := (.object "jdk/internal/misc/Unsafe"), accessFlags := 24, slot := 0, constantValue := 0 }, { name := "BIG_ENDIAN", type := .boolean, accessFlags := 26, slot := 1, constantValue := 0 }, { name := "LOG2_ARRAY_BOOLEAN_INDEX_SCALE", type := .int, accessFlags := 25, slot := 2, constantValue := 0 }, { name := "LOG2_ARRAY_BYTE_INDEX_SCALE", type := .int, accessFlags := 25, slot := 3, constantValue := 0 }, { name := "LOG2_ARRAY_CHAR_INDEX_SCALE", type := .int, accessFlags := 25, slot := 4, constantValue := 0 }, { name := "LOG2_ARRAY_SHORT_INDEX_SCALE", type := .int, accessFlags := 25, slot := 5, constantValue := 0 }, { name := "LOG2_ARRAY_INT_INDEX_SCALE", type := .int, accessFlags := 25, slot := 6, constantValue := 0 }, { name := "LOG2_ARRAY_LONG_INDEX_SCALE", type := .int, accessFlags := 25, slot := 7, constantValue := 0 }, { name := "LOG2_ARRAY_FLOAT_INDEX_SCALE", type := .int, accessFlags := 25, slot := 8, constantValue := 0 }, { name := "LOG2_ARRAY_DOUBLE_INDEX_SCALE", type := .int, accessFlags := 25, slot := 9, constantValue := 0 }, { name := "LOG2_BYTE_BIT_SIZE", type := .int, accessFlags := 26, slot := 10, constantValue := 0 }, { name := "T_BOOLEAN", type := .int, accessFlags := 25, slot := 11, constantValue := 0 }, { name := "T_CHAR", type := .int, accessFlags := 25, slot := 12, constantValue := 0 }, { name := "T_FLOAT", type := .int, accessFlags := 25, slot := 13, constantValue := 0 }, { name := "T_DOUBLE", type := .int, accessFlags := 25, slot := 14, constantValue := 0 }, { name := "T_BYTE", type := .int, accessFlags := 25, slot := 15, constantValue := 0 }, { name := "T_SHORT", type := .int, accessFlags := 25, slot := 16, constantValue := 0 }, { name := "T_INT", type := .int, accessFlags := 25, slot := 17, constantValue := 0 }, { name := "T_LONG", type := .int, accessFlags := 25, slot := 18, constantValue := 0 }, { name := "JLA", type := (.object "jdk/internal/access/JavaLangAccess"), accessFlags := 26, slot := 19, constantValue := 0 }, { name := "SOFT_MAX_ARRAY_LENGTH", type := .int, accessFlags := 25, slot := 20, constantValue := 0 }]
  methods := #[k16m0]
  instanceTypes := #[]
  staticTypes := #[(.object "jdk/internal/misc/Unsafe"), .boolean, .int, .int, .int, .int, .int, .int, .int, .int, .int, .int, .int, .int, .int, .int, .int, .int, .int, (.object "jdk/internal/access/JavaLangAccess"), .int]
  resolved := Array.replicate 378 none
  statics := none }

def pool17 : Array CpInfo := pool [(1, u "java/lang/Cloneable"), (0, .class_ 1), (0, u "java/lang/Object"), (0, .class_ 3)] 3

/-- java/lang/Cloneable -/
def k17 : Class := { plain "java/lang/Cloneable" (some 0) with
  accessFlags := 1537
  interfaces := #[]
  cf := some (fileOf pool17 2 #[] #[] 1537 4 #[] #[])
  fields := #[]
  methods := #[]
  instanceTypes := #[]
  staticTypes := #[]
  resolved := Array.replicate 8 none
  statics := none }

/-- the primitive byte -/
def k18 : Class := { plain "byte" none with kind := .primitive 'B', accessFlags := 0x411 }
/-- [B -/
def k19 : Class := { plain "[B" (some 0) with kind := .array 18 .byte, interfaces := #[17, 4], accessFlags := 1041 }

/-- the primitive char -/
def k20 : Class := { plain "char" none with kind := .primitive 'C', accessFlags := 0x411 }
/-- [C -/
def k21 : Class := { plain "[C" (some 0) with kind := .array 20 .char, interfaces := #[17, 4], accessFlags := 1041 }

/-- the primitive int -/
def k22 : Class := { plain "int" none with kind := .primitive 'I', accessFlags := 0x411 }
/-- [I -/
def k23 : Class := { plain "[I" (some 0) with kind := .array 22 .int, interfaces := #[17, 4], accessFlags := 1041 }

/-- [Lcom/example/cabin_audio_policy/cabinaudiopolicy/AudioContentType; -/
def k24 : Class := { plain "[Lcom/example/cabin_audio_policy/cabinaudiopolicy/AudioContentType;" (some 0) with kind := .array 7 (.object "com/example/cabin_audio_policy/cabinaudiopolicy/AudioContentType"), interfaces := #[17, 4], accessFlags := 1041 }

/-- [Lcom/example/cabin_audio_policy/cabinaudiopolicy/AudioUsage; -/
def k25 : Class := { plain "[Lcom/example/cabin_audio_policy/cabinaudiopolicy/AudioUsage;" (some 0) with kind := .array 6 (.object "com/example/cabin_audio_policy/cabinaudiopolicy/AudioUsage"), interfaces := #[17, 4], accessFlags := 1041 }

def heap : Heap := #[{ cls := 6, slots := #[.ref 4, .ref 5, .ref 6, .ref 7, .ref 8, .ref 9, .ref 10, .ref 11, .ref 12, .ref 13, .ref 14, .ref 15, .ref 16, .ref 17, .ref 18, .ref 19, .ref 20, .ref 21, .ref 22, .ref 23, .ref 24, .null, .null, .null], vm := .statics 6 },
  { cls := 7, slots := #[.ref 25, .ref 26, .ref 27, .ref 28, .ref 29, .ref 30, .null, .null], vm := .statics 7 },
  { cls := 10, slots := #[.long 0, .int 1, .null, .int 0, .null, .int 0, .int 0], vm := .statics 10 },
  { cls := 15, slots := #[.null, .null, .null], vm := .statics 15 },
  { cls := 6, slots := #[.null, .int 0, .int 0, .null, .null], vm := .none },
  { cls := 6, slots := #[.null, .int 1, .int 0, .null, .null], vm := .none },
  { cls := 6, slots := #[.null, .int 2, .int 0, .null, .null], vm := .none },
  { cls := 6, slots := #[.null, .int 3, .int 0, .null, .null], vm := .none },
  { cls := 6, slots := #[.null, .int 4, .int 0, .null, .null], vm := .none },
  { cls := 6, slots := #[.null, .int 5, .int 0, .null, .null], vm := .none },
  { cls := 6, slots := #[.null, .int 6, .int 0, .null, .null], vm := .none },
  { cls := 6, slots := #[.null, .int 7, .int 0, .null, .null], vm := .none },
  { cls := 6, slots := #[.null, .int 8, .int 0, .null, .null], vm := .none },
  { cls := 6, slots := #[.null, .int 9, .int 0, .null, .null], vm := .none },
  { cls := 6, slots := #[.null, .int 10, .int 0, .null, .null], vm := .none },
  { cls := 6, slots := #[.null, .int 11, .int 0, .null, .null], vm := .none },
  { cls := 6, slots := #[.null, .int 12, .int 0, .null, .null], vm := .none },
  { cls := 6, slots := #[.null, .int 13, .int 0, .null, .null], vm := .none },
  { cls := 6, slots := #[.null, .int 14, .int 0, .null, .null], vm := .none },
  { cls := 6, slots := #[.null, .int 15, .int 0, .null, .null], vm := .none },
  { cls := 6, slots := #[.null, .int 16, .int 0, .null, .null], vm := .none },
  { cls := 6, slots := #[.null, .int 17, .int 0, .null, .null], vm := .none },
  { cls := 6, slots := #[.null, .int 18, .int 0, .null, .null], vm := .none },
  { cls := 6, slots := #[.null, .int 19, .int 0, .null, .null], vm := .none },
  { cls := 6, slots := #[.null, .int 20, .int 0, .null, .null], vm := .none },
  { cls := 7, slots := #[.null, .int 0, .int 0], vm := .none },
  { cls := 7, slots := #[.null, .int 1, .int 0], vm := .none },
  { cls := 7, slots := #[.null, .int 2, .int 0], vm := .none },
  { cls := 7, slots := #[.null, .int 3, .int 0], vm := .none },
  { cls := 7, slots := #[.null, .int 4, .int 0], vm := .none },
  { cls := 7, slots := #[.null, .int 5, .int 0], vm := .none }]
def classes : Array Class := #[k0, k1, k2, k3, k4, k5, k6, k7, k8, k9, k10, k11, k12, k13, k14, k15, k16, k17, k18, k19, k20, k21, k22, k23, k24, k25]
def interned : List (Array UInt16 × Addr) := []
def slotsUsed : Nat := 165
def theMethod : MethodId := ⟨1, 3⟩
def args0 : Array Value := #[.int 5, .int 6, .int 7, .int 65, .int 1]
def aboutOver (below : List Frame) : State where
  vm := { classes := classes, interned := interned.toArray }
  heap := heap
  slotsUsed := slotsUsed
  threads := #[{ frames := .invoking theMethod args0 :: below }]
def below0 : List Frame := [.native { method := ⟨0, 0⟩, args := #[] }]
def about1 : State := aboutOver below0
def p0 : Program := .bare "" "" ""
def e0 : Env := launch0.env 0 0 0
theorem w_frames : about1.frames = Frame.invoking theMethod args0 :: below0 := rfl
set_option maxRecDepth 65536 in
theorem w_args : argsFit about1.vm theMethod args0 = true := by decide +kernel
set_option maxRecDepth 65536 in
theorem w_heap : heapFits about1 = true := by decide +kernel
set_option maxRecDepth 65536 in
theorem w_runnable : about1.curStatus? = some .runnable := by decide +kernel
set_option maxRecDepth 65536 in
theorem w_alone : about1.alone = true := by decide +kernel
set_option maxRecDepth 65536 in
theorem w_named : about1.methodNamed? x = some theMethod := by decide +kernel
set_option maxRecDepth 65536 in
theorem w_hears : about1.hears theMethod below0 = true := by decide +kernel
set_option maxRecDepth 65536 in
theorem w_ripe : about1.ripe theMethod args0 below0 = true := by decide +kernel
theorem w_running : about1.status = .running := rfl
set_option maxRecDepth 65536 in
theorem w_room : about1.hasRoom e0.platform room_1 = true :=
  launch0.hasRoom_least _ room_1 (by decide +kernel) (by decide +kernel) (by decide +kernel) (by decide +kernel) (by decide +kernel) (by decide +kernel)
theorem allAtoms_all (ts : List Jvm.Cond) (a : Array Jvm.Value) (st : Jvm.State) : (allAtoms ts).before a st = ts.all (fun c => c.before a st) := by
  induction ts with
  | nil => rfl
  | cons c t ih =>
    show (Jvm.Cond.and c (allAtoms t)).before a st = _
    rw [Jvm.Cond.before_and, ih, List.all_cons]
def words1 : List Jvm.Cond := Jvm.Cond.code x code maxLocals ret :: tables_1
/-- a 'code' word, met by the world's own term for the bytes: nothing is compared byte by byte -/
theorem code_word {y : MethodName} {bytes : ByteArray} {mx : Nat} {rt : Option FieldType} {a : Array Value} {s : State} {m : MethodId} {meth : Method} {c : Code} (h1 : s.methodNamed? y = some m) (h2 : s.vm.method? m = some meth) (h3 : meth.code = some c) (h4 : c.code = bytes)
    (h5 : (c.maxLocals == mx && c.exceptionTable.isEmpty && decide (c.maxStack ≤ mostOperands) && decide (meth.sig.returnType = rt) && !meth.locks && decide (parseMethodDescriptor y.desc = some meth.sig)) = true) : (Jvm.Cond.code y bytes mx rt).before a s = true := by
  simp only [Bool.and_eq_true, beq_iff_eq, Bool.not_eq_true', decide_eq_true_eq] at h5
  obtain ⟨⟨⟨⟨⟨g1, g2⟩, g3⟩, g4⟩, g5⟩, g6⟩ := h5
  simp [Cond.before, Cond.holds, Cond.value, h1, h2, h3, h4, g1, g2, g3, g4, g5, g6]
def isCode : Jvm.Cond → Bool
  | .code _ _ _ _ => true
  | _ => false
theorem all_split {L : List Jvm.Cond} {P : Jvm.Cond → Bool} (h1 : L.all (fun c => isCode c || P c) = true) (h2 : ∀ c ∈ L.filter isCode, P c = true) : L.all P = true := by
  refine List.all_eq_true.mpr fun c hc => ?_
  have h := List.all_eq_true.mp h1 c hc
  rcases Bool.eq_false_or_eq_true (isCode c) with hi | hi
  · exact h2 c (List.mem_filter.mpr ⟨hc, hi⟩)
  · simpa [hi] using h
set_option maxRecDepth 65536 in
theorem w_c0 : (Jvm.Cond.code x code maxLocals ret).before args0 about1 = true := code_word (m := ⟨1, 3⟩) (meth := k1m3) (c := k1c3) (by decide +kernel) rfl rfl rfl (by decide +kernel)
set_option maxRecDepth 65536 in
theorem w_c1 : (Jvm.Cond.code ({ cls := "com/example/cabin_audio_policy/cabinaudiopolicy/AudioAttributesOfPinLaw", name := "usages", desc := "()[Lcom/example/cabin_audio_policy/cabinaudiopolicy/AudioUsage;" } : Jvm.MethodName) method_2_code (0 : Nat) (Option.some (Jvm.ClassFile.FieldType.array (Jvm.ClassFile.FieldType.object "com/example/cabin_audio_policy/cabinaudiopolicy/AudioUsage")))).before args0 about1 = true := code_word (m := ⟨1, 1⟩) (meth := k1m1) (c := k1c1) (by decide +kernel) rfl rfl rfl (by decide +kernel)
set_option maxRecDepth 65536 in
theorem w_c2 : (Jvm.Cond.code ({ cls := "com/example/cabin_audio_policy/cabinaudiopolicy/AudioAttributesOfPinLaw", name := "contentTypes", desc := "()[Lcom/example/cabin_audio_policy/cabinaudiopolicy/AudioContentType;" } : Jvm.MethodName) method_3_code (0 : Nat) (Option.some (Jvm.ClassFile.FieldType.array (Jvm.ClassFile.FieldType.object "com/example/cabin_audio_policy/cabinaudiopolicy/AudioContentType")))).before args0 about1 = true := code_word (m := ⟨1, 2⟩) (meth := k1m2) (c := k1c2) (by decide +kernel) rfl rfl rfl (by decide +kernel)
set_option maxRecDepth 65536 in
theorem w_c3 : (Jvm.Cond.code ({ cls := "java/lang/String", name := "valueOf", desc := "(C)Ljava/lang/String;" } : Jvm.MethodName) jdk_42_method_139_code (1 : Nat) (Option.some (Jvm.ClassFile.FieldType.object "java/lang/String"))).before args0 about1 = true := code_word (m := ⟨10, 2⟩) (meth := k10m2) (c := k10c2) (by decide +kernel) rfl rfl rfl (by decide +kernel)
set_option maxRecDepth 65536 in
theorem w_c4 : (Jvm.Cond.code ({ cls := "java/lang/StringLatin1", name := "canEncode", desc := "(C)Z" } : Jvm.MethodName) jdk_43_method_3_code (1 : Nat) (Option.some Jvm.ClassFile.FieldType.boolean)).before args0 about1 = true := code_word (m := ⟨11, 1⟩) (meth := k11m1) (c := k11c1) (by decide +kernel) rfl rfl rfl (by decide +kernel)
set_option maxRecDepth 65536 in
theorem w_c5 : (Jvm.Cond.code ({ cls := "java/lang/StringLatin1", name := "toBytes", desc := "(C)[B" } : Jvm.MethodName) jdk_43_method_46_code (1 : Nat) (Option.some (Jvm.ClassFile.FieldType.array Jvm.ClassFile.FieldType.byte))).before args0 about1 = true := code_word (m := ⟨11, 2⟩) (meth := k11m2) (c := k11c2) (by decide +kernel) rfl rfl rfl (by decide +kernel)
set_option maxRecDepth 65536 in
theorem w_c6 : (Jvm.Cond.code ({ cls := "java/lang/String", name := "<init>", desc := "([BB)V" } : Jvm.MethodName) jdk_42_method_151_code (3 : Nat) (Option.none : Option Jvm.ClassFile.FieldType)).before args0 about1 = true := code_word (m := ⟨10, 4⟩) (meth := k10m4) (c := k10c4) (by decide +kernel) rfl rfl rfl (by decide +kernel)
set_option maxRecDepth 65536 in
theorem w_c7 : (Jvm.Cond.code ({ cls := "java/lang/Object", name := "<init>", desc := "()V" } : Jvm.MethodName) object_method_1_code (1 : Nat) (Option.none : Option Jvm.ClassFile.FieldType)).before args0 about1 = true := code_word (m := ⟨0, 0⟩) (meth := k0m0) (c := k0c0) (by decide +kernel) rfl rfl rfl (by decide +kernel)
set_option maxRecDepth 65536 in
theorem w_c8 : (Jvm.Cond.code ({ cls := "com/example/cabin_audio_policy/cabinaudiopolicy/AudioAttributes", name := "of", desc := "(Lcom/example/cabin_audio_policy/cabinaudiopolicy/AudioUsage;)Lcom/example/cabin_audio_policy/cabinaudiopolicy/AudioAttributes;" } : Jvm.MethodName) prog_1_method_2_code (1 : Nat) (Option.some (Jvm.ClassFile.FieldType.object "com/example/cabin_audio_policy/cabinaudiopolicy/AudioAttributes"))).before args0 about1 = true := code_word (m := ⟨12, 1⟩) (meth := k12m1) (c := k12c1) (by decide +kernel) rfl rfl rfl (by decide +kernel)
set_option maxRecDepth 65536 in
theorem w_c9 : (Jvm.Cond.code ({ cls := "java/util/Objects", name := "requireNonNull", desc := "(Ljava/lang/Object;)Ljava/lang/Object;" } : Jvm.MethodName) jdk_31_method_10_code (1 : Nat) (Option.some (Jvm.ClassFile.FieldType.object "java/lang/Object"))).before args0 about1 = true := code_word (m := ⟨13, 2⟩) (meth := k13m2) (c := k13c2) (by decide +kernel) rfl rfl rfl (by decide +kernel)
set_option maxRecDepth 65536 in
theorem w_c10 : (Jvm.Cond.code ({ cls := "com/example/cabin_audio_policy/cabinaudiopolicy/AudioAttributes", name := "<init>", desc := "(Lcom/example/cabin_audio_policy/cabinaudiopolicy/AudioUsage;Lcom/example/cabin_audio_policy/cabinaudiopolicy/AudioContentType;Ljava/lang/String;)V" } : Jvm.MethodName) prog_1_method_1_code (4 : Nat) (Option.none : Option Jvm.ClassFile.FieldType)).before args0 about1 = true := code_word (m := ⟨12, 0⟩) (meth := k12m0) (c := k12c0) (by decide +kernel) rfl rfl rfl (by decide +kernel)
set_option maxRecDepth 65536 in
theorem w_c11 : (Jvm.Cond.code ({ cls := "com/example/cabin_audio_policy/cabinaudiopolicy/AudioAttributes", name := "equals", desc := "(Ljava/lang/Object;)Z" } : Jvm.MethodName) prog_1_method_6_code (3 : Nat) (Option.some Jvm.ClassFile.FieldType.boolean)).before args0 about1 = true := code_word (m := ⟨12, 2⟩) (meth := k12m2) (c := k12c2) (by decide +kernel) rfl rfl rfl (by decide +kernel)
set_option maxRecDepth 65536 in
theorem w_c12 : (Jvm.Cond.code ({ cls := "java/util/Objects", name := "equals", desc := "(Ljava/lang/Object;Ljava/lang/Object;)Z" } : Jvm.MethodName) jdk_31_method_2_code (2 : Nat) (Option.some Jvm.ClassFile.FieldType.boolean)).before args0 about1 = true := code_word (m := ⟨13, 1⟩) (meth := k13m1) (c := k13c1) (by decide +kernel) rfl rfl rfl (by decide +kernel)
set_option maxRecDepth 65536 in
theorem w_c13 : (Jvm.Cond.code ({ cls := "java/lang/String", name := "<init>", desc := "([C)V" } : Jvm.MethodName) jdk_42_method_3_code (2 : Nat) (Option.none : Option Jvm.ClassFile.FieldType)).before args0 about1 = true := code_word (m := ⟨10, 1⟩) (meth := k10m1) (c := k10c1) (by decide +kernel) rfl rfl rfl (by decide +kernel)
set_option maxRecDepth 65536 in
theorem w_c14 : (Jvm.Cond.code ({ cls := "java/lang/String", name := "<init>", desc := "([CIILjava/lang/Void;)V" } : Jvm.MethodName) jdk_42_method_149_code (6 : Nat) (Option.none : Option Jvm.ClassFile.FieldType)).before args0 about1 = true := code_word (m := ⟨10, 3⟩) (meth := k10m3) (c := k10c3) (by decide +kernel) rfl rfl rfl (by decide +kernel)
set_option maxRecDepth 65536 in
theorem w_c15 : (Jvm.Cond.code ({ cls := "java/lang/StringUTF16", name := "compress", desc := "([CII)[B" } : Jvm.MethodName) jdk_52_method_16_code (6 : Nat) (Option.some (Jvm.ClassFile.FieldType.array Jvm.ClassFile.FieldType.byte))).before args0 about1 = true := code_word (m := ⟨14, 2⟩) (meth := k14m2) (c := k14c2) (by decide +kernel) rfl rfl rfl (by decide +kernel)
set_option maxRecDepth 65536 in
theorem w_c16 : (Jvm.Cond.code ({ cls := "java/lang/StringUTF16", name := "compress", desc := "([CI[BII)I" } : Jvm.MethodName) jdk_52_method_21_code (7 : Nat) (Option.some Jvm.ClassFile.FieldType.int)).before args0 about1 = true := code_word (m := ⟨14, 3⟩) (meth := k14m3) (c := k14c3) (by decide +kernel) rfl rfl rfl (by decide +kernel)
set_option maxRecDepth 65536 in
theorem w_c17 : (Jvm.Cond.code ({ cls := "java/lang/StringUTF16", name := "coderFromArrayLen", desc := "([BI)B" } : Jvm.MethodName) jdk_52_method_15_code (2 : Nat) (Option.some Jvm.ClassFile.FieldType.byte)).before args0 about1 = true := code_word (m := ⟨14, 1⟩) (meth := k14m1) (c := k14c1) (by decide +kernel) rfl rfl rfl (by decide +kernel)
def codes1 : List Jvm.Cond := [Jvm.Cond.code x code maxLocals ret, Jvm.Cond.code ({ cls := "com/example/cabin_audio_policy/cabinaudiopolicy/AudioAttributesOfPinLaw", name := "usages", desc := "()[Lcom/example/cabin_audio_policy/cabinaudiopolicy/AudioUsage;" } : Jvm.MethodName) method_2_code (0 : Nat) (Option.some (Jvm.ClassFile.FieldType.array (Jvm.ClassFile.FieldType.object "com/example/cabin_audio_policy/cabinaudiopolicy/AudioUsage"))), Jvm.Cond.code ({ cls := "com/example/cabin_audio_policy/cabinaudiopolicy/AudioAttributesOfPinLaw", name := "contentTypes", desc := "()[Lcom/example/cabin_audio_policy/cabinaudiopolicy/AudioContentType;" } : Jvm.MethodName) method_3_code (0 : Nat) (Option.some (Jvm.ClassFile.FieldType.array (Jvm.ClassFile.FieldType.object "com/example/cabin_audio_policy/cabinaudiopolicy/AudioContentType"))), Jvm.Cond.code ({ cls := "java/lang/String", name := "valueOf", desc := "(C)Ljava/lang/String;" } : Jvm.MethodName) jdk_42_method_139_code (1 : Nat) (Option.some (Jvm.ClassFile.FieldType.object "java/lang/String")), Jvm.Cond.code ({ cls := "java/lang/StringLatin1", name := "canEncode", desc := "(C)Z" } : Jvm.MethodName) jdk_43_method_3_code (1 : Nat) (Option.some Jvm.ClassFile.FieldType.boolean), Jvm.Cond.code ({ cls := "java/lang/StringLatin1", name := "toBytes", desc := "(C)[B" } : Jvm.MethodName) jdk_43_method_46_code (1 : Nat) (Option.some (Jvm.ClassFile.FieldType.array Jvm.ClassFile.FieldType.byte)), Jvm.Cond.code ({ cls := "java/lang/String", name := "<init>", desc := "([BB)V" } : Jvm.MethodName) jdk_42_method_151_code (3 : Nat) (Option.none : Option Jvm.ClassFile.FieldType), Jvm.Cond.code ({ cls := "java/lang/Object", name := "<init>", desc := "()V" } : Jvm.MethodName) object_method_1_code (1 : Nat) (Option.none : Option Jvm.ClassFile.FieldType), Jvm.Cond.code ({ cls := "com/example/cabin_audio_policy/cabinaudiopolicy/AudioAttributes", name := "of", desc := "(Lcom/example/cabin_audio_policy/cabinaudiopolicy/AudioUsage;)Lcom/example/cabin_audio_policy/cabinaudiopolicy/AudioAttributes;" } : Jvm.MethodName) prog_1_method_2_code (1 : Nat) (Option.some (Jvm.ClassFile.FieldType.object "com/example/cabin_audio_policy/cabinaudiopolicy/AudioAttributes")), Jvm.Cond.code ({ cls := "java/util/Objects", name := "requireNonNull", desc := "(Ljava/lang/Object;)Ljava/lang/Object;" } : Jvm.MethodName) jdk_31_method_10_code (1 : Nat) (Option.some (Jvm.ClassFile.FieldType.object "java/lang/Object")), Jvm.Cond.code ({ cls := "com/example/cabin_audio_policy/cabinaudiopolicy/AudioAttributes", name := "<init>", desc := "(Lcom/example/cabin_audio_policy/cabinaudiopolicy/AudioUsage;Lcom/example/cabin_audio_policy/cabinaudiopolicy/AudioContentType;Ljava/lang/String;)V" } : Jvm.MethodName) prog_1_method_1_code (4 : Nat) (Option.none : Option Jvm.ClassFile.FieldType), Jvm.Cond.code ({ cls := "com/example/cabin_audio_policy/cabinaudiopolicy/AudioAttributes", name := "equals", desc := "(Ljava/lang/Object;)Z" } : Jvm.MethodName) prog_1_method_6_code (3 : Nat) (Option.some Jvm.ClassFile.FieldType.boolean), Jvm.Cond.code ({ cls := "java/util/Objects", name := "equals", desc := "(Ljava/lang/Object;Ljava/lang/Object;)Z" } : Jvm.MethodName) jdk_31_method_2_code (2 : Nat) (Option.some Jvm.ClassFile.FieldType.boolean), Jvm.Cond.code ({ cls := "java/lang/String", name := "<init>", desc := "([C)V" } : Jvm.MethodName) jdk_42_method_3_code (2 : Nat) (Option.none : Option Jvm.ClassFile.FieldType), Jvm.Cond.code ({ cls := "java/lang/String", name := "<init>", desc := "([CIILjava/lang/Void;)V" } : Jvm.MethodName) jdk_42_method_149_code (6 : Nat) (Option.none : Option Jvm.ClassFile.FieldType), Jvm.Cond.code ({ cls := "java/lang/StringUTF16", name := "compress", desc := "([CII)[B" } : Jvm.MethodName) jdk_52_method_16_code (6 : Nat) (Option.some (Jvm.ClassFile.FieldType.array Jvm.ClassFile.FieldType.byte)), Jvm.Cond.code ({ cls := "java/lang/StringUTF16", name := "compress", desc := "([CI[BII)I" } : Jvm.MethodName) jdk_52_method_21_code (7 : Nat) (Option.some Jvm.ClassFile.FieldType.int), Jvm.Cond.code ({ cls := "java/lang/StringUTF16", name := "coderFromArrayLen", desc := "([BI)B" } : Jvm.MethodName) jdk_52_method_15_code (2 : Nat) (Option.some Jvm.ClassFile.FieldType.byte)]
set_option maxRecDepth 65536 in
theorem codes_eq : words1.filter isCode = codes1 := rfl
theorem w_codes : ∀ c ∈ words1.filter isCode, c.before args0 about1 = true := by
  rw [codes_eq]
  intro c hc
  simp only [codes1, List.mem_cons, List.not_mem_nil, or_false] at hc
  rcases hc with rfl | rfl | rfl | rfl | rfl | rfl | rfl | rfl | rfl | rfl | rfl | rfl | rfl | rfl | rfl | rfl | rfl | rfl
  · exact w_c0
  · exact w_c1
  · exact w_c2
  · exact w_c3
  · exact w_c4
  · exact w_c5
  · exact w_c6
  · exact w_c7
  · exact w_c8
  · exact w_c9
  · exact w_c10
  · exact w_c11
  · exact w_c12
  · exact w_c13
  · exact w_c14
  · exact w_c15
  · exact w_c16
  · exact w_c17
set_option maxRecDepth 65536 in
theorem w_t1 : (words1.take 24).all (fun c => isCode c || c.before args0 about1) = true := by decide +kernel
set_option maxRecDepth 65536 in
theorem w_t2 : ((words1.drop 24).take 24).all (fun c => isCode c || c.before args0 about1) = true := by decide +kernel
set_option maxRecDepth 65536 in
theorem w_t3 : (((words1.drop 24).drop 24).take 24).all (fun c => isCode c || c.before args0 about1) = true := by decide +kernel
set_option maxRecDepth 65536 in
theorem w_t4 : ((((words1.drop 24).drop 24).drop 24).take 24).all (fun c => isCode c || c.before args0 about1) = true := by decide +kernel
set_option maxRecDepth 65536 in
theorem w_t5 : (((((words1.drop 24).drop 24).drop 24).drop 24).take 24).all (fun c => isCode c || c.before args0 about1) = true := by decide +kernel
set_option maxRecDepth 65536 in
theorem w_t6 : ((((((words1.drop 24).drop 24).drop 24).drop 24).drop 24).take 24).all (fun c => isCode c || c.before args0 about1) = true := by decide +kernel
set_option maxRecDepth 65536 in
theorem w_t7 : ((((((words1.drop 24).drop 24).drop 24).drop 24).drop 24).drop 24).all (fun c => isCode c || c.before args0 about1) = true := by decide +kernel
theorem w_tables : (allAtoms (Jvm.Cond.code x code maxLocals ret :: tables_1)).before args0 about1 = true := by
  rw [allAtoms_all]
  show words1.all (fun c => c.before args0 about1) = true
  refine all_split ?_ w_codes
  rw [← List.take_append_drop 24 words1, List.all_append, w_t1, ← List.take_append_drop 24 (words1.drop 24), List.all_append, w_t2, ← List.take_append_drop 24 ((words1.drop 24).drop 24), List.all_append, w_t3, ← List.take_append_drop 24 (((words1.drop 24).drop 24).drop 24), List.all_append, w_t4, ← List.take_append_drop 24 ((((words1.drop 24).drop 24).drop 24).drop 24), List.all_append, w_t5, ← List.take_append_drop 24 (((((words1.drop 24).drop 24).drop 24).drop 24).drop 24), List.all_append, w_t6, w_t7]
  rfl
set_option maxRecDepth 65536 in
theorem w_rest : rest_1_c.before args0 about1 = true := by decide +kernel
set_option maxRecDepth 65536 in
theorem w_case : (Jvm.Cond.and given_1 narrow_1).before args0 about1 = true := by decide +kernel
theorem w_applies : (headSpec (Jvm.Cond.code x code maxLocals ret :: tables_1) room_1).applies x e0.platform about1 = true :=
  (Spec.applies_iff w_frames).mpr ⟨w_running, w_runnable, w_alone, w_named, w_hears, w_ripe, w_room, w_tables⟩
theorem atStart : AtStart classFile x code maxLocals ret World_1 tables_1 room_1 Calls_1 rest_1 Pre_1 launch0 p0 e0 about1 theMethod args0 below0 :=
  ⟨lists_1, trivial, launch0.admits_env _ _ _, launch0.least_env, fairChoices_fair.cas, fairChoices_fair.clock, w_frames, w_args, w_heap, w_applies, trivial, w_rest, w_case⟩
end start1
theorem witness_1 : WitnessClaimed_1 := ⟨start1.p0, start1.e0, start1.about1, start1.theMethod, start1.args0, start1.below0, start1.atStart⟩
end Jvm.Pilot.@@N@@
