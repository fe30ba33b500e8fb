import JvmDerived
import JvmDerived.Pilot.@@N@@Statement
import JvmDerived.Pilot.@@N@@Code
set_option linter.unusedVariables false
set_option linter.unusedSimpArgs false
/- laws to paste: Road.backV, Road.codOf, Road.lenW, Road.chN (cut by pick.py; bodies as the Statement names them) -/
namespace Jvm.Pilot.@@N@@
namespace StrChars
open Jvm Sem ClassFile Op Lib Jvm.Stand Jvm.Free.XT Jvm.Free.ALB Jvm.Free.JM Jvm.Free
open Jvm.Lib.Cold (StaticIs)
/-- a char array whose places are chars -/
def Ch (a : Addr) (A : Cell) (U : State) : Prop := Arr .char a A U ∧ Typed .char A
theorem Ch.mv {a : Addr} {A : Cell} {U U' : State} (h : Ch a A U) (hal : U.vm.Alike U'.vm) (hh : U'.heap = U.heap) : Ch a A U' := ⟨h.1.mv hal hh, h.2⟩
theorem Ch.keep {a : Addr} {A : Cell} {U U' : State} (h : Ch a A U) (hal : U.vm.Alike U'.vm) (hk : U'.heap[a]? = some A) : Ch a A U' := ⟨h.1.keep hal hk, h.2⟩
/-- what place i of a char[]'s cell holds -/
def cv (A : Cell) (i : Nat) : Int32 := match A.slots[i]? with | some (.int x) => x | _ => 0
theorem Ch.get {a : Addr} {A : Cell} {U : State} (h : Ch a A U) {i : Nat} (hi : i < A.slots.size) : A.slots[i]? = some (.int (cv A i)) := by
  have e := Array.getElem?_eq_getElem hi
  have f := h.2 i _ e
  unfold cv; rw [e]
  generalize A.slots[i] = v at f
  cases v <;> simp [fits] at f ⊢
/-- the byte that i2b leaves of a char -/
def lo8 (x : Int32) : Int32 := x.toInt8.toInt32
theorem fits_lo8 (y : Int32) : fits .byte (.int (lo8 y)) = true := by
  have h1 := y.toInt8.le_toInt
  have h2 := y.toInt8.toInt_lt
  simp only [lo8, fits, Bool.and_eq_true, decide_eq_true_eq, Int32.le_iff_toInt_le, Int8.toInt_toInt32, show (-128 : Int32).toInt = -128 from by decide, show (127 : Int32).toInt = 127 from by decide]
  omega
/-- A' is A but that each place j of lo .. hi - 1 holds f j -/
def Laid (A A' : Cell) (lo hi : Nat) (f : Nat → Value) : Prop := A'.cls = A.cls ∧ A'.vm = A.vm ∧ A'.slots.size = A.slots.size ∧ ∀ i, A'.slots[i]? = if lo ≤ i ∧ i < hi then some (f i) else A.slots[i]?
theorem Laid.zero (A : Cell) (lo : Nat) (f : Nat → Value) : Laid A A lo (lo + 0) f := ⟨rfl, rfl, rfl, fun i => by rw [if_neg (by omega)]⟩
theorem Laid.step {A Ak : Cell} {lo k : Nat} {f : Nat → Value} {v : Value} (h : Laid A Ak lo k f) (hlo : lo ≤ k) (hk : k < Ak.slots.size) (hv : v = f k) : Laid A (Ak.setSlot k v) lo (k + 1) f := by
  refine ⟨h.1, h.2.1, by simpa [Cell.setSlot] using h.2.2.1, fun i => ?_⟩
  by_cases e : k = i
  · subst e; rw [Cell.slots_setSlot_self v hk, if_pos (by omega), hv]
  · rw [Cell.slots_setSlot_ne v e, h.2.2.2 i]
    by_cases q : lo ≤ i ∧ i < k
    · rw [if_pos q, if_pos (by omega)]
    · rw [if_neg q, if_neg (by omega)]
def U16 : String := "java/lang/StringUTF16"
namespace Cmp5
def yN : MethodName := ⟨"java/lang/StringUTF16", "compress", "([CI[BII)I"⟩
abbrev yB : ByteArray := jdk_52_method_21_code
theorem d0 : decode yB 0 = .ok (.iconst 0, 1) := by decide +kernel
theorem d1 : decode yB 1 = .ok (.istore 5, 2) := by decide +kernel
theorem d3 : decode yB 3 = .ok (.iload 5, 2) := by decide +kernel
theorem d5 : decode yB 5 = .ok (.iload 4, 2) := by decide +kernel
theorem d7 : decode yB 7 = .ok (.if_icmp (.ge) 37, 3) := by decide +kernel
theorem d10 : decode yB 10 = .ok (.aload_n 0, 1) := by decide +kernel
theorem d11 : decode yB 11 = .ok (.iload_n 1, 1) := by decide +kernel
theorem d12 : decode yB 12 = .ok (.caload, 1) := by decide +kernel
theorem d13 : decode yB 13 = .ok (.istore 6, 2) := by decide +kernel
theorem d15 : decode yB 15 = .ok (.iload 6, 2) := by decide +kernel
theorem d17 : decode yB 17 = .ok (.sipush 255, 3) := by decide +kernel
theorem d20 : decode yB 20 = .ok (.if_icmp (.le) 6, 3) := by decide +kernel
theorem d26 : decode yB 26 = .ok (.aload_n 2, 1) := by decide +kernel
theorem d27 : decode yB 27 = .ok (.iload_n 3, 1) := by decide +kernel
theorem d28 : decode yB 28 = .ok (.iload 6, 2) := by decide +kernel
theorem d30 : decode yB 30 = .ok (.i2b, 1) := by decide +kernel
theorem d31 : decode yB 31 = .ok (.bastore, 1) := by decide +kernel
theorem d32 : decode yB 32 = .ok (.iinc 1 1, 3) := by decide +kernel
theorem d35 : decode yB 35 = .ok (.iinc 3 1, 3) := by decide +kernel
theorem d38 : decode yB 38 = .ok (.iinc 5 1, 3) := by decide +kernel
theorem d41 : decode yB 41 = .ok (.goto (-38), 3) := by decide +kernel
theorem d44 : decode yB 44 = .ok (.iload 4, 2) := by decide +kernel
theorem d46 : decode yB 46 = .ok (.ireturn, 1) := by decide +kernel
def site : List Cond := []
def tab : Cond := tabOf yN yB 7 (some .int) site
def P (b : Addr) (A : Cell) (d : Addr) (B : Cell) (o q len : Nat) (args : Array Value) (s : State) : Prop := args = #[.ref b, .int (Int32.ofNat o), .ref d, .int (Int32.ofNat q), .int (Int32.ofNat len)] ∧ Ch b A s ∧ Arr .byte d B s ∧ b ≠ d ∧ o + len ≤ A.slots.size ∧ q + len ≤ B.slots.size ∧ ∀ i, i < len → ¬ 255 < cv A (o + i)
def E (b : Addr) (A : Cell) (d : Addr) (B : Cell) (o q len : Nat) (r : Option Value) (s u : State) : Prop := r = some (.int (Int32.ofNat len)) ∧ ∃ B', Put d B' s u ∧ Laid B B' q (q + len) (fun j => Value.int (lo8 (cv A (o + (j - q)))))
/-- no char of the range above 255: len; the places written hold each char's low byte -/
theorem law (l : Launch) (b : Addr) (A : Cell) (d : Addr) (B : Cell) (o q len : Nat) : Law l yN 5 5 0 0 yB 7 (some .int) site (P b A d B o q len) (E b A d B o q len) (copyLocs d q len) 0 0 := by
  refine Law.of_walk (plainFor_of_name (by decide +kernel)) (by decide +kernel) (by decide +kernel) (by decide) (fun _ _ h => by rw [h.1]; rfl) (fun _ U U' hal hh h => ⟨h.1, h.2.1.mv hal hh, h.2.2.1.mv hal hh, h.2.2.2⟩) (fun r U U' V V' h1 hal h2 h => ⟨h.1, h.2.elim fun B' q => ⟨B', q.1.mv h1 h2, q.2⟩⟩) ?_
  intro p e s m args below meth c s₁ X0 hexec hbytes hml hret hlk hnm hown hh0 W hP
  obtain ⟨rfl, hA, hB, hne, l1, l2, hp⟩ := hP
  have c1 : Steps p.tables e below (s₁.setTop (entryFrame m #[.ref b, .int (Int32.ofNat o), .ref d, .int (Int32.ofNat q), .int (Int32.ofNat len)] 7)) (s₁.setTop (mkF m 0 #[.val (.ref b), .val (.int (Int32.ofNat o)), .val (.ref d), .val (.int (Int32.ofNat q)), .val (.int (Int32.ofNat len)), .unset, .unset] [])) := entry rfl
  have hA0 := hA.1.mv X0.warmed.alike hh0
  have hB0 := hB.mv X0.warmed.alike hh0
  have a31 := hA.1.2.2.2
  have c2 : Steps p.tables e below (s₁.setTop (entryFrame m #[.ref b, .int (Int32.ofNat o), .ref d, .int (Int32.ofNat q), .int (Int32.ofNat len)] 7)) (s₁.setTop (mkF m 3 #[.val (.ref b), .val (.int (Int32.ofNat o)), .val (.ref d), .val (.int (Int32.ofNat q)), .val (.int (Int32.ofNat len)), .val (.int 0), .unset] [])) := c1.trans (by
    refine iconstV X0.here hexec rfl 0 (hb hbytes d0) (by decide) ?_
    refine XS.istore X0.here hexec rfl (hb hbytes d1) rfl rfl ?_
    exact Steps.refl _)
  have loop : ∀ (r i : Nat), i + r = len → ∀ (z : Slot), (z = .unset ∨ ∃ w, z = .val w ∧ w.category = 1) → ∀ (Tl : State) (Bk : Cell), Stand p l e { frames := 0, locals := 0, cells := 0, slots := 0 } s m #[.ref b, .int (Int32.ofNat o), .ref d, .int (Int32.ofNat q), .int (Int32.ofNat len)] below meth c Tl ([] ++ copyLocs d q i) 0 0 → Put d Bk s₁ Tl → Laid B Bk q (q + i) (fun j => Value.int (lo8 (cv A (o + (j - q))))) →
      Steps p.tables e below (s₁.setTop (entryFrame m #[.ref b, .int (Int32.ofNat o), .ref d, .int (Int32.ofNat q), .int (Int32.ofNat len)] 7)) (Tl.setTop (mkF m 3 #[.val (.ref b), .val (.int (Int32.ofNat (o + i))), .val (.ref d), .val (.int (Int32.ofNat (q + i))), .val (.int (Int32.ofNat len)), .val (.int (Int32.ofNat i)), z] [])) → ∃ (T' : State) (B' : Cell) (z' : Slot), Stand p l e { frames := 0, locals := 0, cells := 0, slots := 0 } s m #[.ref b, .int (Int32.ofNat o), .ref d, .int (Int32.ofNat q), .int (Int32.ofNat len)] below meth c T' ([] ++ copyLocs d q len) 0 0 ∧ Put d B' s₁ T' ∧ Laid B B' q (q + len) (fun j => Value.int (lo8 (cv A (o + (j - q))))) ∧
      Steps p.tables e below (s₁.setTop (entryFrame m #[.ref b, .int (Int32.ofNat o), .ref d, .int (Int32.ofNat q), .int (Int32.ofNat len)] 7)) (T'.setTop (mkF m 3 #[.val (.ref b), .val (.int (Int32.ofNat (o + len))), .val (.ref d), .val (.int (Int32.ofNat (q + len))), .val (.int (Int32.ofNat len)), .val (.int (Int32.ofNat len)), z'] [])) := by
    intro r
    induction r with
    | zero =>
      intro i hi z hz Tl Bk Xl pl fl cl
      have hil : i = len := by omega
      rw [hil] at Xl fl cl
      exact ⟨Tl, Bk, z, Xl, pl, fl, cl⟩
    | succ r ih =>
      intro i hi z hz Tl Bk Xl pl fl cl
      have all := X0.warmed.alike.symm.trans Xl.warmed.alike
      have hAl := hA0.keep all (pl.other hne hA0.1)
      have hBk := hB0.like all pl.1 fl.1 fl.2.1 fl.2.2.1
      have hlt : q + i < Bk.slots.size := by rw [fl.2.2.1]; omega
      have c3 : Steps p.tables e below (s₁.setTop (entryFrame m #[.ref b, .int (Int32.ofNat o), .ref d, .int (Int32.ofNat q), .int (Int32.ofNat len)] 7)) (Tl.setTop (mkF m 12 #[.val (.ref b), .val (.int (Int32.ofNat (o + i))), .val (.ref d), .val (.int (Int32.ofNat (q + i))), .val (.int (Int32.ofNat len)), .val (.int (Int32.ofNat i)), z] [.int (Int32.ofNat (o + i)), .ref b])) := cl.trans (by
        refine XS.iload Xl.here hexec rfl (hb hbytes d3) rfl ?_
        refine XS.iload Xl.here hexec rfl (hb hbytes d5) rfl ?_
        refine XS.icmpNo Xl.here hexec rfl (hb hbytes d7) rfl (ii_ge_f (lt32 (by omega) (by omega))) ?_
        refine XS.aloadN Xl.here hexec rfl (hb hbytes d10) rfl rfl ?_
        refine XS.iloadN Xl.here hexec rfl (hb hbytes d11) rfl ?_
        exact Steps.refl _)
      have c4 : Steps p.tables e below (s₁.setTop (entryFrame m #[.ref b, .int (Int32.ofNat o), .ref d, .int (Int32.ofNat q), .int (Int32.ofNat len)] 7)) (Tl.setTop (mkF m 13 #[.val (.ref b), .val (.int (Int32.ofNat (o + i))), .val (.ref d), .val (.int (Int32.ofNat (q + i))), .val (.int (Int32.ofNat len)), .val (.int (Int32.ofNat i)), z] [.int (cv A (o + i))])) := c3.trans (by
        refine Xl.aget hexec hAl rfl (hA.get (i := o + i) (by omega)) rfl rfl (hb hbytes d12) ?_
        exact Steps.refl _)
      have c5 : Steps p.tables e below (s₁.setTop (entryFrame m #[.ref b, .int (Int32.ofNat o), .ref d, .int (Int32.ofNat q), .int (Int32.ofNat len)] 7)) (Tl.setTop (mkF m 15 #[.val (.ref b), .val (.int (Int32.ofNat (o + i))), .val (.ref d), .val (.int (Int32.ofNat (q + i))), .val (.int (Int32.ofNat len)), .val (.int (Int32.ofNat i)), .val (.int (cv A (o + i)))] [])) := c4.trans (by
        refine XS.istoreS Xl.here hexec rfl (hb hbytes d13) rfl rfl hz ?_
        exact Steps.refl _)
      have c6 : Steps p.tables e below (s₁.setTop (entryFrame m #[.ref b, .int (Int32.ofNat o), .ref d, .int (Int32.ofNat q), .int (Int32.ofNat len)] 7)) (Tl.setTop (mkF m 31 #[.val (.ref b), .val (.int (Int32.ofNat (o + i))), .val (.ref d), .val (.int (Int32.ofNat (q + i))), .val (.int (Int32.ofNat len)), .val (.int (Int32.ofNat i)), .val (.int (cv A (o + i)))] [.int (lo8 (cv A (o + i))), .int (Int32.ofNat (q + i)), .ref d])) := c5.trans (by
        refine XS.iload Xl.here hexec rfl (hb hbytes d15) rfl ?_
        refine sipushV Xl.here hexec rfl 255 (hb hbytes d17) (by decide) ?_
        refine XS.icmpYes Xl.here hexec rfl (pc0 := 20) rfl (hb hbytes d20) rfl (ii_le_t (hp i (by omega))) (by decide) rfl ?_
        refine XS.aloadN Xl.here hexec rfl (hb hbytes d26) rfl rfl ?_
        refine XS.iloadN Xl.here hexec rfl (hb hbytes d27) rfl ?_
        refine XS.iload Xl.here hexec rfl (hb hbytes d28) rfl ?_
        refine i2b Xl.here hexec rfl (hb hbytes d30) rfl ?_
        exact Steps.refl _)
      obtain ⟨T7, X7, p7, st7⟩ := Xl.aput hexec hBk rfl hlt rfl (fits_lo8 (cv A (o + i))) (g := (mkF m 31 #[.val (.ref b), .val (.int (Int32.ofNat (o + i))), .val (.ref d), .val (.int (Int32.ofNat (q + i))), .val (.int (Int32.ofNat len)), .val (.int (Int32.ofNat i)), .val (.int (cv A (o + i)))] [.int (lo8 (cv A (o + i))), .int (Int32.ofNat (q + i)), .ref d])) rfl (rest := []) rfl (hb hbytes d31)
      have c8 : Steps p.tables e below (s₁.setTop (entryFrame m #[.ref b, .int (Int32.ofNat o), .ref d, .int (Int32.ofNat q), .int (Int32.ofNat len)] 7)) (T7.setTop (mkF m 32 #[.val (.ref b), .val (.int (Int32.ofNat (o + i))), .val (.ref d), .val (.int (Int32.ofNat (q + i))), .val (.int (Int32.ofNat len)), .val (.int (Int32.ofNat i)), .val (.int (cv A (o + i)))] [])) := c6.trans (st7 _ (Steps.refl _))
      have c9 : Steps p.tables e below (s₁.setTop (entryFrame m #[.ref b, .int (Int32.ofNat o), .ref d, .int (Int32.ofNat q), .int (Int32.ofNat len)] 7)) (T7.setTop (mkF m 3 #[.val (.ref b), .val (.int (Int32.ofNat (o + i) + 1)), .val (.ref d), .val (.int (Int32.ofNat (q + i) + 1)), .val (.int (Int32.ofNat len)), .val (.int (Int32.ofNat i + 1)), .val (.int (cv A (o + i)))] [])) := c8.trans (by
        refine iincV X7.here hexec rfl 1 (hb hbytes d32) (by decide) rfl rfl ?_
        refine iincV X7.here hexec rfl 1 (hb hbytes d35) (by decide) rfl rfl ?_
        refine iincV X7.here hexec rfl 1 (hb hbytes d38) (by decide) rfl rfl ?_
        refine XS.goto X7.here hexec rfl (pc0 := 41) rfl (hb hbytes d41) (by decide) rfl ?_
        exact Steps.refl _)
      have c10 : Steps p.tables e below (s₁.setTop (entryFrame m #[.ref b, .int (Int32.ofNat o), .ref d, .int (Int32.ofNat q), .int (Int32.ofNat len)] 7)) (T7.setTop (mkF m 3 #[.val (.ref b), .val (.int (Int32.ofNat (o + (i + 1)))), .val (.ref d), .val (.int (Int32.ofNat (q + (i + 1)))), .val (.int (Int32.ofNat len)), .val (.int (Int32.ofNat (i + 1))), .val (.int (cv A (o + i)))] [])) := by
        have := c9
        rw [succ32, succ32, succ32] at this
        exact this
      exact ih (i + 1) (by omega) _ (Or.inr ⟨_, rfl, rfl⟩) T7 _ (by rw [copyLocs_step, ← List.append_assoc]; exact X7) (pl.trans p7) (fl.step (by omega) hlt (by simp)) c10
  obtain ⟨T9, B9, z9, X9, p9, f9, g9⟩ := loop len 0 (by omega) .unset (Or.inl rfl) s₁ B (by simpa [copyLocs] using X0) ⟨hB0.1, fun _ _ => rfl, rfl⟩ (Laid.zero _ _ _) c2
  have c11 : Steps p.tables e below (s₁.setTop (entryFrame m #[.ref b, .int (Int32.ofNat o), .ref d, .int (Int32.ofNat q), .int (Int32.ofNat len)] 7)) (T9.setTop (mkF m 46 #[.val (.ref b), .val (.int (Int32.ofNat (o + len))), .val (.ref d), .val (.int (Int32.ofNat (q + len))), .val (.int (Int32.ofNat len)), .val (.int (Int32.ofNat len)), z9] [.int (Int32.ofNat len)])) := g9.trans (by
    refine XS.iload X9.here hexec rfl (hb hbytes d3) rfl ?_
    refine XS.iload X9.here hexec rfl (hb hbytes d5) rfl ?_
    refine XS.icmpYes X9.here hexec rfl (pc0 := 7) rfl (hb hbytes d7) rfl (ii_ge_t (nlt32 (by omega) (Nat.le_refl _))) (by decide) rfl ?_
    refine XS.iload X9.here hexec rfl (hb hbytes d44) rfl ?_
    exact Steps.refl _)
  exact ⟨T9, some (.int (Int32.ofNat len)), _, _, _, X9, by simp, rfl, rfl, (fun h => by cases h), ⟨rfl, B9, p9.from hh0, f9⟩, fun fs hl => c11.trans (X9.ireturnOut hexec hret rfl (Or.inl rfl) (hb hbytes d46) hl)⟩
end Cmp5
namespace Cmp3
def yN : MethodName := ⟨"java/lang/StringUTF16", "compress", "([CII)[B"⟩
abbrev yB : ByteArray := jdk_52_method_16_code
theorem d0 : decode yB 0 = .ok (.iload_n 2, 1) := by decide +kernel
theorem d1 : decode yB 1 = .ok (.newarray .byte, 2) := by decide +kernel
theorem d3 : decode yB 3 = .ok (.astore_n 3, 1) := by decide +kernel
theorem d4 : decode yB 4 = .ok (.aload_n 0, 1) := by decide +kernel
theorem d5 : decode yB 5 = .ok (.iload_n 1, 1) := by decide +kernel
theorem d6 : decode yB 6 = .ok (.aload_n 3, 1) := by decide +kernel
theorem d7 : decode yB 7 = .ok (.iconst 0, 1) := by decide +kernel
theorem d8 : decode yB 8 = .ok (.iload_n 2, 1) := by decide +kernel
theorem d9 : decode yB 9 = .ok (.invokestatic 115, 3) := by decide +kernel
theorem d12 : decode yB 12 = .ok (.istore 4, 2) := by decide +kernel
theorem d14 : decode yB 14 = .ok (.iload 4, 2) := by decide +kernel
theorem d16 : decode yB 16 = .ok (.iload_n 2, 1) := by decide +kernel
theorem d17 : decode yB 17 = .ok (.if_icmp (.eq) 40, 3) := by decide +kernel
theorem d57 : decode yB 57 = .ok (.aload_n 3, 1) := by decide +kernel
theorem d58 : decode yB 58 = .ok (.areturn, 1) := by decide +kernel
def site : List Cond := [.arrayClass .byte, Cmp5.tab] ++ staticW U16 115 Cmp5.yN
def tab : Cond := tabOf yN yB 6 (some (.array .byte)) site
def P (b : Addr) (A : Cell) (o len : Nat) (args : Array Value) (s : State) : Prop := args = #[.ref b, .int (Int32.ofNat o), .int (Int32.ofNat len)] ∧ Ch b A s ∧ o + len ≤ A.slots.size ∧ len ≤ 536870912 ∧ ∀ i, i < len → ¬ 255 < cv A (o + i)
def E (b : Addr) (A : Cell) (o len : Nat) (r : Option Value) (s u : State) : Prop := NewArr .byte "[B" len (fun j => .int (lo8 (cv A (o + j)))) r s u ∧ u.heap.size = s.heap.size + 1
/-- no char of the range above 255: a new byte[] of their low bytes -/
theorem law (l : Launch) (b : Addr) (A : Cell) (o len : Nat) : Law l yN 3 3 1 18 yB 6 (some (.array .byte)) site (P b A o len) (E b A o len) [] 1 len := by
  refine Law.of_walk (plainFor_of_name (by decide +kernel)) (by decide +kernel) (by decide +kernel) (by decide) (fun _ _ h => by rw [h.1]; rfl) (fun _ U U' hal hh h => ⟨h.1, h.2.1.mv hal hh, h.2.2⟩) (fun r U U' V V' h1 hal h2 h => ⟨NewArr.mv r U U' V V' h1 hal h2 h.1, by rw [h1, h2]; exact h.2⟩) ?_
  intro p e s m args below meth c s₁ X0 hexec hbytes hml hret hlk hnm hown hh0 W hP
  obtain ⟨rfl, hA, l1, l2, hp⟩ := hP
  have a31 := hA.1.2.2.2
  have c1 : Steps p.tables e below (s₁.setTop (entryFrame m #[.ref b, .int (Int32.ofNat o), .int (Int32.ofNat len)] 6)) (s₁.setTop (mkF m 0 #[.val (.ref b), .val (.int (Int32.ofNat o)), .val (.int (Int32.ofNat len)), .unset, .unset, .unset] [])) := entry rfl
  have c2 : Steps p.tables e below (s₁.setTop (entryFrame m #[.ref b, .int (Int32.ofNat o), .int (Int32.ofNat len)] 6)) (s₁.setTop (mkF m 1 #[.val (.ref b), .val (.int (Int32.ofNat o)), .val (.int (Int32.ofNat len)), .unset, .unset, .unset] [.int (Int32.ofNat len)])) := c1.trans (by
    refine XS.iloadN X0.here hexec rfl (hb hbytes d0) rfl ?_
    exact Steps.refl _)
  obtain ⟨T3, B3, X3, ba3, bs3, bv3, bh3, bf3, st3⟩ := X0.anew hexec (atype := .byte) (wk W (.arrayClass .byte)) rfl (by show len * 1 ≤ _; omega) (by omega) (g := (mkF m 1 #[.val (.ref b), .val (.int (Int32.ofNat o)), .val (.int (Int32.ofNat len)), .unset, .unset, .unset] [.int (Int32.ofNat len)])) rfl (hb hbytes d1) (rest := []) rfl (Nat.le_refl _) (by show 0 + len ≤ len; omega)
  rw [hh0] at ba3 st3
  have kp3 : XT.Kept s T3 := (XT.Kept.of_eq hh0).push bh3
  have hA3 := hA.keep X3.warmed.alike (kp3 _ _ hA.1.1)
  have hne : b ≠ s.heap.size := hA.1.ne
  have c4 : Steps p.tables e below (s₁.setTop (entryFrame m #[.ref b, .int (Int32.ofNat o), .int (Int32.ofNat len)] 6)) (T3.setTop (mkF m 3 #[.val (.ref b), .val (.int (Int32.ofNat o)), .val (.int (Int32.ofNat len)), .unset, .unset, .unset] [.ref s.heap.size])) := c2.trans (st3 _ (Steps.refl _))
  have c5 : Steps p.tables e below (s₁.setTop (entryFrame m #[.ref b, .int (Int32.ofNat o), .int (Int32.ofNat len)] 6)) (T3.setTop (mkF m 9 #[.val (.ref b), .val (.int (Int32.ofNat o)), .val (.int (Int32.ofNat len)), .val (.ref s.heap.size), .unset, .unset] [.int (Int32.ofNat len), .int 0, .ref s.heap.size, .int (Int32.ofNat o), .ref b])) := c4.trans (by
    refine XS.astoreN X3.here hexec rfl (hb hbytes d3) rfl rfl rfl ?_
    refine XS.aloadN X3.here hexec rfl (hb hbytes d4) rfl rfl ?_
    refine XS.iloadN X3.here hexec rfl (hb hbytes d5) rfl ?_
    refine XS.aloadN X3.here hexec rfl (hb hbytes d6) rfl rfl ?_
    refine iconstV X3.here hexec rfl 0 (hb hbytes d7) (by decide) ?_
    refine XS.iloadN X3.here hexec rfl (hb hbytes d8) rfl ?_
    exact Steps.refl _)
  obtain ⟨v6, T6, X6, E6, g6⟩ := X3.callS hexec (Cmp5.law l b A s.heap.size B3 o 0 len) hown (wks W (staticW U16 115 Cmp5.yN)) (wk W Cmp5.tab) (W := 0) (Nat.le_of_ble_eq_true rfl) (Nat.le_of_ble_eq_true rfl) (Nat.le_refl _) (by show 0 + len + 0 ≤ len; omega) (g := (mkF m 9 #[.val (.ref b), .val (.int (Int32.ofNat o)), .val (.int (Int32.ofNat len)), .val (.ref s.heap.size), .unset, .unset] [.int (Int32.ofNat len), .int (Int32.ofNat 0), .ref s.heap.size, .int (Int32.ofNat o), .ref b])) rfl (by rw [hml]; rfl) c5 (argsL := [.ref b, .int (Int32.ofNat o), .ref s.heap.size, .int (Int32.ofNat 0), .int (Int32.ofNat len)]) (rest := []) rfl rfl (by show 2 * 0 + 0 ≤ _; decide) (hb hbytes d9) (⟨rfl, hA3, ba3, hne, l1, by rw [bs3]; simp, hp⟩)
  obtain ⟨rfl, B6, p6, f6⟩ := E6
  have c7 : Steps p.tables e below (s₁.setTop (entryFrame m #[.ref b, .int (Int32.ofNat o), .int (Int32.ofNat len)] 6)) (T6.setTop (mkF m 12 #[.val (.ref b), .val (.int (Int32.ofNat o)), .val (.int (Int32.ofNat len)), .val (.ref s.heap.size), .unset, .unset] [.int (Int32.ofNat len)])) := g6
  have c8 : Steps p.tables e below (s₁.setTop (entryFrame m #[.ref b, .int (Int32.ofNat o), .int (Int32.ofNat len)] 6)) (T6.setTop (mkF m 58 #[.val (.ref b), .val (.int (Int32.ofNat o)), .val (.int (Int32.ofNat len)), .val (.ref s.heap.size), .val (.int (Int32.ofNat len)), .unset] [.ref s.heap.size])) := c7.trans (by
    refine XS.istore X6.here hexec rfl (hb hbytes d12) rfl rfl ?_
    refine XS.iload X6.here hexec rfl (hb hbytes d14) rfl ?_
    refine XS.iloadN X6.here hexec rfl (hb hbytes d16) rfl ?_
    refine XS.icmpYes X6.here hexec rfl (pc0 := 17) rfl (hb hbytes d17) rfl (ii_eq_t rfl) (by decide) rfl ?_
    refine XS.aloadN X6.here hexec rfl (hb hbytes d57) rfl rfl ?_
    exact Steps.refl _)
  have X8 := X6.wide (L' := []) (cells' := 1) (slots' := len) (fun x hx hlt => by
    simp only [List.nil_append, copyLocs, List.mem_map, List.mem_range] at hx
    obtain ⟨i, -, rfl⟩ := hx
    exact absurd hlt (Nat.lt_irrefl _)) (Nat.le_refl _) (by omega)
  exact ⟨T6, some (.ref s.heap.size), _, _, _, X8, rfl, rfl, rfl, (fun h => by cases h), ⟨⟨rfl, B6, ba3.like (X3.warmed.alike.symm.trans X6.warmed.alike) p6.1 f6.1 f6.2.1 f6.2.2.1, f6.2.1.trans bv3, by rw [X6.warmed.alike.findClass, f6.1]; exact bf3, by rw [f6.2.2.1, bs3]; simp, fun j hj => by rw [f6.2.2.2 j, if_pos (by omega)]; rfl, kp3.put p6 (Nat.le_refl _)⟩, by rw [p6.2.2, bh3, hh0]; simp⟩, fun fs hl => c8.trans (X8.areturnOut hexec rfl hret rfl (hb hbytes d58) hl)⟩
end Cmp3
namespace CodL
def yN : MethodName := ⟨"java/lang/StringUTF16", "coderFromArrayLen", "([BI)B"⟩
abbrev yB : ByteArray := jdk_52_method_15_code
theorem d0 : decode yB 0 = .ok (.iload_n 1, 1) := by decide +kernel
theorem d1 : decode yB 1 = .ok (.aload_n 0, 1) := by decide +kernel
theorem d2 : decode yB 2 = .ok (.arraylength, 1) := by decide +kernel
theorem d3 : decode yB 3 = .ok (.isub, 1) := by decide +kernel
theorem d4 : decode yB 4 = .ok (.bipush 31, 2) := by decide +kernel
theorem d6 : decode yB 6 = .ok (.iushr, 1) := by decide +kernel
theorem d7 : decode yB 7 = .ok (.i2b, 1) := by decide +kernel
theorem d8 : decode yB 8 = .ok (.ireturn, 1) := by decide +kernel
def site : List Cond := []
def tab : Cond := tabOf yN yB 2 (some .byte) site
def P (d : Addr) (B : Cell) (args : Array Value) (s : State) : Prop := args = #[.ref d, .int (Int32.ofNat B.slots.size)] ∧ Arr .byte d B s
def E (r : Option Value) (s u : State) : Prop := XT.PureE (some (.int 0)) r s u
/-- an array as long as the number of chars: LATIN1 -/
theorem law (l : Launch) (d : Addr) (B : Cell) : Law l yN 2 2 0 0 yB 2 (some .byte) site (P d B) E [] 0 0 := by
  refine Law.of_walk (plainFor_of_name (by decide +kernel)) (by decide +kernel) (by decide +kernel) (by decide) (fun _ _ h => by rw [h.1]; rfl) (fun _ U U' hal hh h => ⟨h.1, h.2.mv hal hh⟩) (fun r U U' V V' h1 hal h2 h => XT.PureE.mv r U U' V V' h1 hal h2 h) ?_
  intro p e s m args below meth c s₁ X0 hexec hbytes hml hret hlk hnm hown hh0 W hP
  obtain ⟨rfl, hB⟩ := hP
  have hB0 := hB.mv X0.warmed.alike hh0
  have c1 : Steps p.tables e below (s₁.setTop (entryFrame m #[.ref d, .int (Int32.ofNat B.slots.size)] 2)) (s₁.setTop (mkF m 0 #[.val (.ref d), .val (.int (Int32.ofNat B.slots.size))] [])) := entry rfl
  have c2 : Steps p.tables e below (s₁.setTop (entryFrame m #[.ref d, .int (Int32.ofNat B.slots.size)] 2)) (s₁.setTop (mkF m 2 #[.val (.ref d), .val (.int (Int32.ofNat B.slots.size))] [.ref d, .int (Int32.ofNat B.slots.size)])) := c1.trans (by
    refine XS.iloadN X0.here hexec rfl (hb hbytes d0) rfl ?_
    refine XS.aloadN X0.here hexec rfl (hb hbytes d1) rfl rfl ?_
    exact Steps.refl _)
  have c3 : Steps p.tables e below (s₁.setTop (entryFrame m #[.ref d, .int (Int32.ofNat B.slots.size)] 2)) (s₁.setTop (mkF m 8 #[.val (.ref d), .val (.int (Int32.ofNat B.slots.size))] [.int (lo8 (ushr (Int32.ofNat B.slots.size - Int32.ofNat B.slots.size) 31))])) := c2.trans (by
    refine X0.alen hexec hB0 rfl rfl (hb hbytes d2) ?_
    refine XS.isub X0.here hexec rfl (hb hbytes d3) rfl ?_
    refine bipushV X0.here hexec rfl 31 (hb hbytes d4) (by decide) ?_
    refine iushr X0.here hexec rfl (hb hbytes d6) rfl ?_
    refine i2b X0.here hexec rfl (hb hbytes d7) rfl ?_
    exact Steps.refl _)
  have e0 : lo8 (ushr (Int32.ofNat B.slots.size - Int32.ofNat B.slots.size) 31) = 0 := by rw [Int32.sub_self]; decide
  rw [e0] at c3
  exact ⟨s₁, some (.int 0), _, _, _, X0, rfl, rfl, rfl, (fun h => by cases h), ⟨rfl, hh0⟩, fun fs hl => c3.trans (X0.ireturnOut hexec hret rfl (Or.inr (Or.inr (Or.inl rfl))) (hb hbytes d8) hl)⟩
end CodL
/-- the String at a is Latin-1 over a new byte[] (the heap's one new cell): the low bytes of the len chars of A from o on; every cell but a is kept -/
def Got (a : Addr) (D : Cell) (fV fC : Field) (A : Cell) (o len : Nat) (r : Option Value) (s u : State) : Prop := r = none ∧ ∃ D' V : Cell, Blank "java/lang/String" a D' u ∧ Same D D' [fV.slot, fC.slot] ∧ D'.slots[fV.slot]? = some (.ref s.heap.size) ∧ D'.slots[fC.slot]? = some (.int 0) ∧ Arr .byte s.heap.size V u ∧ V.vm = .none ∧ u.vm.findClass "[B" = some V.cls ∧ V.slots.size = len ∧ (∀ j, j < len → V.slots[j]? = some (.int (lo8 (cv A (o + j))))) ∧ (∀ (y : Addr) (c : Cell), y ≠ a → s.heap[y]? = some c → u.heap[y]? = some c) ∧ u.heap.size = s.heap.size + 1
theorem Got.mv {a : Addr} {D A : Cell} {fV fC : Field} {o len : Nat} : ∀ r (U U' V V' : State), U'.heap = U.heap → V.vm.Alike V'.vm → V'.heap = V.heap → Got a D fV fC A o len r U V → Got a D fV fC A o len r U' V' :=
  fun r U U' V V' h1 hal h2 ⟨e0, D', X, a1, a2, a3, a4, a5, a6, a7, a8, a9, a10, a11⟩ => ⟨e0, D', X, a1.mv hal h2, a2, by rw [h1]; exact a3, a4, by rw [h1]; exact a5.mv hal h2, a6, by rw [hal.findClass]; exact a7, a8, a9, by rw [h1, h2]; exact a10, by rw [h1, h2]; exact a11⟩
namespace New4
def yN : MethodName := ⟨"java/lang/String", "<init>", "([CIILjava/lang/Void;)V"⟩
abbrev yB : ByteArray := jdk_42_method_149_code
theorem d0 : decode yB 0 = .ok (.aload_n 0, 1) := by decide +kernel
theorem d1 : decode yB 1 = .ok (.invokespecial 1, 3) := by decide +kernel
theorem d4 : decode yB 4 = .ok (.iload_n 3, 1) := by decide +kernel
theorem d5 : decode yB 5 = .ok (.ifCond (.ne) 22, 3) := by decide +kernel
theorem d27 : decode yB 27 = .ok (.getstatic 38, 3) := by decide +kernel
theorem d30 : decode yB 30 = .ok (.ifCond (.eq) 28, 3) := by decide +kernel
theorem d33 : decode yB 33 = .ok (.aload_n 1, 1) := by decide +kernel
theorem d34 : decode yB 34 = .ok (.iload_n 2, 1) := by decide +kernel
theorem d35 : decode yB 35 = .ok (.iload_n 3, 1) := by decide +kernel
theorem d36 : decode yB 36 = .ok (.invokestatic 177, 3) := by decide +kernel
theorem d39 : decode yB 39 = .ok (.astore 5, 2) := by decide +kernel
theorem d41 : decode yB 41 = .ok (.aload_n 0, 1) := by decide +kernel
theorem d42 : decode yB 42 = .ok (.aload 5, 2) := by decide +kernel
theorem d44 : decode yB 44 = .ok (.iload_n 3, 1) := by decide +kernel
theorem d45 : decode yB 45 = .ok (.invokestatic 47, 3) := by decide +kernel
theorem d48 : decode yB 48 = .ok (.putfield 15, 3) := by decide +kernel
theorem d51 : decode yB 51 = .ok (.aload_n 0, 1) := by decide +kernel
theorem d52 : decode yB 52 = .ok (.aload 5, 2) := by decide +kernel
theorem d54 : decode yB 54 = .ok (.putfield 9, 3) := by decide +kernel
theorem d57 : decode yB 57 = .ok (.return_, 1) := by decide +kernel
def site : List Cond := [.fieldLink "java/lang/String" 38 "java/lang/String" "COMPACT_STRINGS" "Z", Cmp3.tab, CodL.tab, .laysFinal "java/lang/String" "java/lang/String" "value" "[B", .fieldLink "java/lang/String" 9 "java/lang/String" "value" "[B", .laysFinal "java/lang/String" "java/lang/String" "coder" "B", .fieldLink "java/lang/String" 15 "java/lang/String" "coder" "B"] ++ objW "java/lang/String" 1 ++ staticW "java/lang/String" 177 Cmp3.yN ++ staticW "java/lang/String" 47 CodL.yN
def tab : Cond := tabOf yN yB 6 none site
def P (a : Addr) (D : Cell) (fV fC : Field) (b : Addr) (A : Cell) (z : Int32) (o len : Nat) (args : Array Value) (s : State) : Prop := args = #[.ref a, .ref b, .int (Int32.ofNat o), .int (Int32.ofNat len), .null] ∧ Blank "java/lang/String" a D s ∧ Found "java/lang/String" "value" "[B" fV s ∧ Found "java/lang/String" "coder" "B" fC s ∧ Ch b A s ∧ StaticIs s "java/lang/String" "COMPACT_STRINGS" "Z" (.int z) ∧ ¬ z = 0 ∧ 0 < len ∧ o + len ≤ A.slots.size ∧ len ≤ 536870912 ∧ ∀ i, i < len → ¬ 255 < cv A (o + i)
def E (a : Addr) (D : Cell) (fV fC : Field) (A : Cell) (o len : Nat) (r : Option Value) (s u : State) : Prop := Got a D fV fC A o len r s u
/-- len > 0, no char of the range above 255: a Latin-1 String of their low bytes -/
theorem law (l : Launch) (a : Addr) (D : Cell) (fV fC : Field) (b : Addr) (A : Cell) (z : Int32) (o len : Nat) : Law l yN 5 4 2 35 yB 6 none site (P a D fV fC b A z o len) (E a D fV fC A o len) [⟨a, fC.slot⟩, ⟨a, fV.slot⟩] 1 len := by
  refine Law.of_walk (plainFor_of_name (by decide +kernel)) (by decide +kernel) (by decide +kernel) (by decide) (fun _ _ h => by rw [h.1]; rfl) (fun _ U U' hal hh h => ⟨h.1, h.2.1.mv hal hh, h.2.2.1.al hal, h.2.2.2.1.al hal, h.2.2.2.2.1.mv hal hh, h.2.2.2.2.2.1.there hal hh, h.2.2.2.2.2.2⟩) (fun r U U' V V' h1 hal h2 h => Got.mv r U U' V V' h1 hal h2 h) ?_
  intro p e s m args below meth c s₁ X0 hexec hbytes hml hret hlk hnm hown hh0 W hP
  obtain ⟨rfl, hB, f1, f2, hA, s1, hz, l0, l1, l2, hp⟩ := hP
  have a31 := hA.1.2.2.2
  have c1 : Steps p.tables e below (s₁.setTop (entryFrame m #[.ref a, .ref b, .int (Int32.ofNat o), .int (Int32.ofNat len), .null] 6)) (s₁.setTop (mkF m 0 #[.val (.ref a), .val (.ref b), .val (.int (Int32.ofNat o)), .val (.int (Int32.ofNat len)), .val .null, .unset] [])) := entry rfl
  have c2 : Steps p.tables e below (s₁.setTop (entryFrame m #[.ref a, .ref b, .int (Int32.ofNat o), .int (Int32.ofNat len), .null] 6)) (s₁.setTop (mkF m 1 #[.val (.ref a), .val (.ref b), .val (.int (Int32.ofNat o)), .val (.int (Int32.ofNat len)), .val .null, .unset] [.ref a])) := c1.trans (by
    refine XS.aloadN X0.here hexec rfl (hb hbytes d0) rfl rfl ?_
    exact Steps.refl _)
  obtain ⟨T3, X3, q3, st3⟩ := X0.oinit hexec hown (wks W (objW "java/lang/String" 1)) (g := (mkF m 1 #[.val (.ref a), .val (.ref b), .val (.int (Int32.ofNat o)), .val (.int (Int32.ofNat len)), .val .null, .unset] [.ref a])) rfl (by rw [hml]; rfl) (rest := []) rfl (hb hbytes d1) (W := 0) (by show 2 * 0 + 0 ≤ _; decide) (Nat.le_of_ble_eq_true rfl) (Nat.le_of_ble_eq_true rfl)
  have hh3 := q3.trans hh0
  have c4 : Steps p.tables e below (s₁.setTop (entryFrame m #[.ref a, .ref b, .int (Int32.ofNat o), .int (Int32.ofNat len), .null] 6)) (T3.setTop (mkF m 27 #[.val (.ref a), .val (.ref b), .val (.int (Int32.ofNat o)), .val (.int (Int32.ofNat len)), .val .null, .unset] [])) := (c2.trans (st3 _ (Steps.refl _))).trans (by
    refine XS.iloadN X3.here hexec rfl (hb hbytes d4) rfl ?_
    refine XS.ifYes X3.here hexec rfl (pc0 := 5) rfl (hb hbytes d5) rfl (i0_ne_t (nz32 (by omega) l0)) (by decide) rfl ?_
    exact Steps.refl _)
  obtain ⟨T5, X5, q5, st5⟩ := X3.sget hexec hown (wk W (.fieldLink "java/lang/String" 38 "java/lang/String" "COMPACT_STRINGS" "Z")) s1 (fun _ _ h => by rw [hh3]; exact h) (g := (mkF m 27 #[.val (.ref a), .val (.ref b), .val (.int (Int32.ofNat o)), .val (.int (Int32.ofNat len)), .val .null, .unset] [])) rfl (hb hbytes d27)
  have hh5 := q5.trans hh3
  have c6 : Steps p.tables e below (s₁.setTop (entryFrame m #[.ref a, .ref b, .int (Int32.ofNat o), .int (Int32.ofNat len), .null] 6)) (T5.setTop (mkF m 30 #[.val (.ref a), .val (.ref b), .val (.int (Int32.ofNat o)), .val (.int (Int32.ofNat len)), .val .null, .unset] [.int z])) := c4.trans (st5 _ (Steps.refl _))
  have c7 : Steps p.tables e below (s₁.setTop (entryFrame m #[.ref a, .ref b, .int (Int32.ofNat o), .int (Int32.ofNat len), .null] 6)) (T5.setTop (mkF m 36 #[.val (.ref a), .val (.ref b), .val (.int (Int32.ofNat o)), .val (.int (Int32.ofNat len)), .val .null, .unset] [.int (Int32.ofNat len), .int (Int32.ofNat o), .ref b])) := c6.trans (by
    refine XS.ifNo X5.here hexec rfl (hb hbytes d30) rfl (i0_eq_f hz) ?_
    refine XS.aloadN X5.here hexec rfl (hb hbytes d33) rfl rfl ?_
    refine XS.iloadN X5.here hexec rfl (hb hbytes d34) rfl ?_
    refine XS.iloadN X5.here hexec rfl (hb hbytes d35) rfl ?_
    exact Steps.refl _)
  obtain ⟨v8, T8, X8, E8, g8⟩ := X5.callS hexec (Cmp3.law l b A o len) hown (wks W (staticW "java/lang/String" 177 Cmp3.yN)) (wk W Cmp3.tab) (W := 0) (Nat.le_of_ble_eq_true rfl) (Nat.le_of_ble_eq_true rfl) (Nat.le_refl _) (by show 0 + len ≤ len; omega) (g := (mkF m 36 #[.val (.ref a), .val (.ref b), .val (.int (Int32.ofNat o)), .val (.int (Int32.ofNat len)), .val .null, .unset] [.int (Int32.ofNat len), .int (Int32.ofNat o), .ref b])) rfl (by rw [hml]; rfl) c7 (argsL := [.ref b, .int (Int32.ofNat o), .int (Int32.ofNat len)]) (rest := []) rfl rfl (by show 2 * 0 + 0 ≤ _; decide) (hb hbytes d36) (⟨rfl, hA.mv X5.warmed.alike hh5, l1, l2, hp⟩)
  obtain ⟨e8, z8⟩ := E8
  obtain ⟨rfl, N, n1, n2, n3, n4, n5, n6⟩ := NewArr.mv _ T5 s _ _ hh5.symm (Vm.Alike.refl _) rfl e8
  rw [hh5] at z8
  have hB1 := hB.keep X8.warmed.alike (n6 _ _ hB.1)
  have hne : s.heap.size ≠ a := (Nat.ne_of_lt (Array.getElem?_eq_some_iff.mp hB.1).1).symm
  have c9 : Steps p.tables e below (s₁.setTop (entryFrame m #[.ref a, .ref b, .int (Int32.ofNat o), .int (Int32.ofNat len), .null] 6)) (T8.setTop (mkF m 39 #[.val (.ref a), .val (.ref b), .val (.int (Int32.ofNat o)), .val (.int (Int32.ofNat len)), .val .null, .unset] [.ref s.heap.size])) := g8
  have c10 : Steps p.tables e below (s₁.setTop (entryFrame m #[.ref a, .ref b, .int (Int32.ofNat o), .int (Int32.ofNat len), .null] 6)) (T8.setTop (mkF m 45 #[.val (.ref a), .val (.ref b), .val (.int (Int32.ofNat o)), .val (.int (Int32.ofNat len)), .val .null, .val (.ref s.heap.size)] [.int (Int32.ofNat N.slots.size), .ref s.heap.size, .ref a])) := by
    have hc : Steps p.tables e below (s₁.setTop (entryFrame m #[.ref a, .ref b, .int (Int32.ofNat o), .int (Int32.ofNat len), .null] 6)) (T8.setTop (mkF m 45 #[.val (.ref a), .val (.ref b), .val (.int (Int32.ofNat o)), .val (.int (Int32.ofNat len)), .val .null, .val (.ref s.heap.size)] [.int (Int32.ofNat len), .ref s.heap.size, .ref a])) := c9.trans (by
      refine XS.astore X8.here hexec rfl (hb hbytes d39) rfl rfl rfl ?_
      refine XS.aloadN X8.here hexec rfl (hb hbytes d41) rfl rfl ?_
      refine XS.aload X8.here hexec rfl (hb hbytes d42) rfl rfl ?_
      refine XS.iloadN X8.here hexec rfl (hb hbytes d44) rfl ?_
      exact Steps.refl _)
    rw [n4]; exact hc
  obtain ⟨v11, T11, X11, E11, g11⟩ := X8.callS hexec (CodL.law l s.heap.size N) hown (wks W (staticW "java/lang/String" 47 CodL.yN)) (wk W CodL.tab) (W := 1) (Nat.le_of_ble_eq_true rfl) (Nat.le_of_ble_eq_true rfl) (Nat.le_refl _) (by show 0 + len + 0 ≤ len; omega) (g := (mkF m 45 #[.val (.ref a), .val (.ref b), .val (.int (Int32.ofNat o)), .val (.int (Int32.ofNat len)), .val .null, .val (.ref s.heap.size)] [.int (Int32.ofNat N.slots.size), .ref s.heap.size, .ref a])) rfl (by rw [hml]; rfl) c10 (argsL := [.ref s.heap.size, .int (Int32.ofNat N.slots.size)]) (rest := [.ref a]) rfl rfl (by show 2 * 0 + (1 + 0) ≤ _; decide) (hb hbytes d45) (⟨rfl, n1⟩)
  obtain ⟨rfl, q11⟩ := E11
  have hB11 := hB1.mv (X8.warmed.alike.symm.trans X11.warmed.alike) q11
  have c12 : Steps p.tables e below (s₁.setTop (entryFrame m #[.ref a, .ref b, .int (Int32.ofNat o), .int (Int32.ofNat len), .null] 6)) (T11.setTop (mkF m 48 #[.val (.ref a), .val (.ref b), .val (.int (Int32.ofNat o)), .val (.int (Int32.ofNat len)), .val .null, .val (.ref s.heap.size)] [.int 0, .ref a])) := g11
  obtain ⟨T13, X13, p13, bl13, sl13, st13⟩ := X11.finit hexec hown (wk W (.fieldLink "java/lang/String" 15 "java/lang/String" "coder" "B")) (Or.inr ⟨_, (wk W (.laysFinal "java/lang/String" "java/lang/String" "coder" "B"))⟩) (Or.inl ⟨rfl, hnm⟩) f2 (Or.inl rfl) hB11 (t := .byte) (by decide +kernel) rfl (g := (mkF m 48 #[.val (.ref a), .val (.ref b), .val (.int (Int32.ofNat o)), .val (.int (Int32.ofNat len)), .val .null, .val (.ref s.heap.size)] [.int 0, .ref a])) rfl (rest := []) rfl (hb hbytes d48)
  have c14 : Steps p.tables e below (s₁.setTop (entryFrame m #[.ref a, .ref b, .int (Int32.ofNat o), .int (Int32.ofNat len), .null] 6)) (T13.setTop (mkF m 54 #[.val (.ref a), .val (.ref b), .val (.int (Int32.ofNat o)), .val (.int (Int32.ofNat len)), .val .null, .val (.ref s.heap.size)] [.ref s.heap.size, .ref a])) := (c12.trans (st13 _ (Steps.refl _))).trans (by
    refine XS.aloadN X13.here hexec rfl (hb hbytes d51) rfl rfl ?_
    refine XS.aload X13.here hexec rfl (hb hbytes d52) rfl rfl ?_
    exact Steps.refl _)
  obtain ⟨T15, X15, p15, bl15, sl15, st15⟩ := X13.finit hexec hown (wk W (.fieldLink "java/lang/String" 9 "java/lang/String" "value" "[B")) (Or.inr ⟨_, (wk W (.laysFinal "java/lang/String" "java/lang/String" "value" "[B"))⟩) (Or.inl ⟨rfl, hnm⟩) f1 (Or.inl rfl) bl13 (t := (.array .byte)) (by decide +kernel) rfl (g := (mkF m 54 #[.val (.ref a), .val (.ref b), .val (.int (Int32.ofNat o)), .val (.int (Int32.ofNat len)), .val .null, .val (.ref s.heap.size)] [.ref s.heap.size, .ref a])) rfl (rest := []) rfl (hb hbytes d54)
  have c16 : Steps p.tables e below (s₁.setTop (entryFrame m #[.ref a, .ref b, .int (Int32.ofNat o), .int (Int32.ofNat len), .null] 6)) (T15.setTop (mkF m 57 #[.val (.ref a), .val (.ref b), .val (.int (Int32.ofNat o)), .val (.int (Int32.ofNat len)), .val .null, .val (.ref s.heap.size)] [])) := c14.trans (st15 _ (Steps.refl _))
  have ap := apart (Or.inr ⟨_, (wk W (.laysFinal "java/lang/String" "java/lang/String" "value" "[B"))⟩) (Or.inr ⟨_, (wk W (.laysFinal "java/lang/String" "java/lang/String" "coder" "B"))⟩) f1 f2 (t₁ := .array .byte) (t₂ := .byte) (by decide +kernel) (by decide +kernel) (by decide)
  have al := X8.warmed.alike.symm.trans X15.warmed.alike
  have n7 : T11.heap[s.heap.size]? = some N := by rw [q11]; exact n1.1
  exact ⟨T15, none, _, _, _, X15, by simp, rfl, by omega, (fun _ => rfl), ⟨rfl, _, N, bl15, ((Same.refl D _).set _ (by simp)).set _ (by simp), sl15, (Cell.slots_setSlot_ne _ ap).trans sl13, n1.keep al (p15.other hne (p13.other hne n7)), n2, by rw [al.findClass]; exact n3, n4, n5, fun y c h1 h2 => p15.other h1 (p13.other h1 (by rw [q11]; exact n6 y c h2)), by rw [p15.2.2, p13.2.2, q11]; exact z8⟩, fun fs hl => c16.trans (X15.returnOut hexec hret (hb hbytes d57) hl)⟩
end New4
namespace New1
def yN : MethodName := ⟨"java/lang/String", "<init>", "([C)V"⟩
abbrev yB : ByteArray := jdk_42_method_3_code
theorem d0 : decode yB 0 = .ok (.aload_n 0, 1) := by decide +kernel
theorem d1 : decode yB 1 = .ok (.aload_n 1, 1) := by decide +kernel
theorem d2 : decode yB 2 = .ok (.iconst 0, 1) := by decide +kernel
theorem d3 : decode yB 3 = .ok (.aload_n 1, 1) := by decide +kernel
theorem d4 : decode yB 4 = .ok (.arraylength, 1) := by decide +kernel
theorem d5 : decode yB 5 = .ok (.aconst_null, 1) := by decide +kernel
theorem d6 : decode yB 6 = .ok (.invokespecial 27, 3) := by decide +kernel
theorem d9 : decode yB 9 = .ok (.return_, 1) := by decide +kernel
def site : List Cond := [New4.tab] ++ initW "java/lang/String" 27 New4.yN
def tab : Cond := tabOf yN yB 2 none site
def P (a : Addr) (D : Cell) (fV fC : Field) (b : Addr) (A : Cell) (z : Int32) (args : Array Value) (s : State) : Prop := args = #[.ref a, .ref b] ∧ Blank "java/lang/String" a D s ∧ Found "java/lang/String" "value" "[B" fV s ∧ Found "java/lang/String" "coder" "B" fC s ∧ Ch b A s ∧ StaticIs s "java/lang/String" "COMPACT_STRINGS" "Z" (.int z) ∧ ¬ z = 0 ∧ 0 < A.slots.size ∧ A.slots.size ≤ 536870912 ∧ ∀ i, i < A.slots.size → ¬ 255 < cv A i
def E (a : Addr) (D : Cell) (fV fC : Field) (A : Cell) (r : Option Value) (s u : State) : Prop := Got a D fV fC A 0 A.slots.size r s u
/-- new String(chars), not empty, no char above 255: a Latin-1 String of their low bytes -/
theorem law (l : Launch) (a : Addr) (D : Cell) (fV fC : Field) (b : Addr) (A : Cell) (z : Int32) : Law l yN 2 1 3 52 yB 2 none site (P a D fV fC b A z) (E a D fV fC A) [⟨a, fC.slot⟩, ⟨a, fV.slot⟩] 1 A.slots.size := by
  refine Law.of_walk (plainFor_of_name (by decide +kernel)) (by decide +kernel) (by decide +kernel) (by decide) (fun _ _ h => by rw [h.1]; rfl) (fun _ U U' hal hh h => ⟨h.1, h.2.1.mv hal hh, h.2.2.1.al hal, h.2.2.2.1.al hal, h.2.2.2.2.1.mv hal hh, h.2.2.2.2.2.1.there hal hh, h.2.2.2.2.2.2⟩) (fun r U U' V V' h1 hal h2 h => Got.mv r U U' V V' h1 hal h2 h) ?_
  intro p e s m args below meth c s₁ X0 hexec hbytes hml hret hlk hnm hown hh0 W hP
  obtain ⟨rfl, hB, f1, f2, hA, s1, hz, l0, l2, hp⟩ := hP
  have c1 : Steps p.tables e below (s₁.setTop (entryFrame m #[.ref a, .ref b] 2)) (s₁.setTop (mkF m 0 #[.val (.ref a), .val (.ref b)] [])) := entry rfl
  have c2 : Steps p.tables e below (s₁.setTop (entryFrame m #[.ref a, .ref b] 2)) (s₁.setTop (mkF m 6 #[.val (.ref a), .val (.ref b)] [.null, .int (Int32.ofNat A.slots.size), .int 0, .ref b, .ref a])) := c1.trans (by
    refine XS.aloadN X0.here hexec rfl (hb hbytes d0) rfl rfl ?_
    refine XS.aloadN X0.here hexec rfl (hb hbytes d1) rfl rfl ?_
    refine iconstV X0.here hexec rfl 0 (hb hbytes d2) (by decide) ?_
    refine XS.aloadN X0.here hexec rfl (hb hbytes d3) rfl rfl ?_
    refine X0.alen hexec (hA.1.mv X0.warmed.alike hh0) rfl rfl (hb hbytes d4) ?_
    refine XS.aconstNull X0.here hexec rfl (hb hbytes d5) ?_
    exact Steps.refl _)
  obtain ⟨v3, T3, X3, E3, g3⟩ := X0.callN hexec (New4.law l a D fV fC b A z 0 A.slots.size) rfl hown (wks W (initW "java/lang/String" 27 New4.yN)) (W New4.tab (by simp only [site, List.mem_cons, List.mem_append, true_or, or_true])) (W := 0) (Nat.le_of_ble_eq_true rfl) (Nat.le_of_ble_eq_true rfl) (Nat.le_refl _) (by show 0 + A.slots.size ≤ A.slots.size; omega) (g := (mkF m 6 #[.val (.ref a), .val (.ref b)] [.null, .int (Int32.ofNat A.slots.size), .int (Int32.ofNat 0), .ref b, .ref a])) rfl (by rw [hml]; rfl) c2 (argsL := [.ref b, .int (Int32.ofNat 0), .int (Int32.ofNat A.slots.size), .null]) (rest := []) rfl rfl (by show 2 * 0 + 0 ≤ _; decide) (hb hbytes d6) (⟨rfl, hB.mv X0.warmed.alike hh0, f1.al X0.warmed.alike, f2.al X0.warmed.alike, hA.mv X0.warmed.alike hh0, s1.there X0.warmed.alike hh0, hz, l0, by omega, l2, fun i hi => by rw [Nat.zero_add]; exact hp i hi⟩)
  have e0 := Got.mv _ s₁ s _ _ hh0.symm (Vm.Alike.refl _) rfl E3
  obtain rfl := e0.1
  have c4 : Steps p.tables e below (s₁.setTop (entryFrame m #[.ref a, .ref b] 2)) (T3.setTop (mkF m 9 #[.val (.ref a), .val (.ref b)] [])) := g3
  exact ⟨T3, none, _, _, _, X3, by simp, rfl, by omega, (fun _ => rfl), e0, fun fs hl => c4.trans (X3.returnOut hexec hret (hb hbytes d9) hl)⟩
theorem pays {l : Launch} {R : Room} {p : Program} {e : Env} {below : List Frame} {s : State} {sargs : Array Value} {len W : Nat} (a : Addr) (D : Cell) (fV fC : Field) (b : Addr) (A : Cell) (z : Int32) (htab : tab.before sargs s = true) (hfr : 4 ≤ R.frames) (hlo : W + 65 ≤ R.locals) :
    Back l R p e below s sargs yN len W (fun A₁ a₁ => A₁.cells + 1 ≤ R.cells ∧ A₁.slots + A.slots.size ≤ R.slots ∧ P a D fV fC b A z a₁ A₁.U) (fun A₁ _ v₁ B₁ => E a D fV fC A v₁ A₁.U B₁.U ∧ B₁.locs = A₁.locs ++ [⟨a, fC.slot⟩, ⟨a, fV.slot⟩] ∧ B₁.cells = A₁.cells + 1 ∧ B₁.slots = A₁.slots + A.slots.size) :=
  (law l a D fV fC b A z).pays htab hfr (by omega)
end New1
/-- the byte, read back as charAt reads it, is the char -/
theorem lo8_mask {x : Int32} (h0 : ¬ x < 0) (h1 : ¬ 255 < x) : lo8 x &&& 255 = x := by
  have t : ∀ k : Fin 256, lo8 (Int32.ofNat k.val) &&& 255 = Int32.ofNat k.val := by decide +kernel
  rw [Int32.lt_iff_toInt_lt] at h0 h1
  have e0 : (0 : Int32).toInt = 0 := rfl
  have e1 : (255 : Int32).toInt = 255 := rfl
  obtain ⟨k, hk⟩ : ∃ k : Nat, x.toInt = k := ⟨x.toInt.toNat, by omega⟩
  have hx : x = Int32.ofNat k := Int32.toInt_inj.mp (by rw [hk, Int32.toInt_ofNat_small (by omega)])
  rw [hx]
  exact t ⟨k, by omega⟩
end StrChars
namespace StrChars.Road
open Jvm Sem ClassFile Op Lib Jvm.Stand Jvm.Free Jvm.Free.XT
open Jvm.Lib.Cold (StaticIs)
abbrev ST : String := "java/lang/String"
/-- every table word that New1's law asks, flat -/
abbrev words : List Jvm.Cond := [.code New1.yN New1.yB 2 none, .initialized ST, .methodLink ST 27 New4.yN, .instanceMethod New4.yN,
  .code New4.yN New4.yB 6 none, .fieldLink ST 38 ST "COMPACT_STRINGS" "Z", .laysFinal ST ST "value" "[B", .fieldLink ST 9 ST "value" "[B", .laysFinal ST ST "coder" "B", .fieldLink ST 15 ST "coder" "B",
  .methodLink ST 1 Lib.objectInit, .instanceMethod Lib.objectInit, .code Lib.objectInit ⟨#[0xb1]⟩ 1 none, .methodLink ST 177 Cmp3.yN, .static Cmp3.yN, .methodLink ST 47 CodL.yN, .static CodL.yN,
  .code Cmp3.yN Cmp3.yB 6 (some (.array .byte)), .initialized U16, .arrayClass .byte, .methodLink U16 115 Cmp5.yN, .static Cmp5.yN, .code Cmp5.yN Cmp5.yB 7 (some .int), .code CodL.yN CodL.yB 2 (some .byte)]
theorem tab_of {a : Array Value} {s : State} (h : ∀ w ∈ words, w.before a s = true) : New1.tab.before a s = true := by
  have h5 : Cmp5.tab.before a s = true := unparts (wk h (.code Cmp5.yN Cmp5.yB 7 (some .int))) (wks h (.initialized Cmp5.yN.cls :: Cmp5.site))
  have hc : CodL.tab.before a s = true := unparts (wk h (.code CodL.yN CodL.yB 2 (some .byte))) (wks h (.initialized CodL.yN.cls :: CodL.site))
  have q5 : ∀ w ∈ Cmp5.tab :: words, w.before a s = true := fun w hw => (List.mem_cons.mp hw).elim (fun e => e ▸ h5) (h w)
  have h3 : Cmp3.tab.before a s = true := unparts (wk q5 (.code Cmp3.yN Cmp3.yB 6 (some (.array .byte)))) (wks q5 (.initialized Cmp3.yN.cls :: Cmp3.site))
  have q3 : ∀ w ∈ Cmp3.tab :: CodL.tab :: words, w.before a s = true := fun w hw => (List.mem_cons.mp hw).elim (fun e => e ▸ h3) fun hw => (List.mem_cons.mp hw).elim (fun e => e ▸ hc) (h w)
  have h4 : New4.tab.before a s = true := unparts (wk q3 (.code New4.yN New4.yB 6 none)) (wks q3 (.initialized New4.yN.cls :: New4.site))
  have q4 : ∀ w ∈ New4.tab :: words, w.before a s = true := fun w hw => (List.mem_cons.mp hw).elim (fun e => e ▸ h4) (h w)
  exact unparts (wk q4 (.code New1.yN New1.yB 2 none)) (wks q4 (.initialized New1.yN.cls :: New1.site))
/-- the words ride from the start Z to the walk's own state -/
theorem moved {Z s : State} {a0 args : Array Value} (hZ : Z.Warmed39 s.vm) (hw : ∀ d ∈ words, d.before a0 Z = true) : ∀ d ∈ words, d.before args s = true := fun d hd => by
  have q := hw d hd
  have t : ∀ d ∈ words, d = .arrayClass .byte ∨ (d.onTables && d.keepsFace) = true := by decide +kernel
  rcases t d hd with rfl | t
  · exact RoadKit.mvA hZ q
  · exact RoadKit.mv hZ q t
/-- WHAT COMES BACK, over the tables of the start Z: h the heap at the call, h' behind it -/
def Q (Z : State) (x : Addr) (A : Cell) (h : Heap) (v : Option Value) (h' : Heap) (L : List Loc) : Prop := v = none ∧ (∀ y ∈ L, y.base = x) ∧ RoadKit.Keep h h' [x] ∧ h'.size = h.size + 1 ∧ RoadKit.Exa Z h' x ST ∧ RoadKit.Fld Z h' x ST "value" "[B" (.ref h.size) ∧ RoadKit.Fld Z h' x ST "coder" "B" (.int 0) ∧
  (∃ V : Cell, RoadKit.Arr Z h' h.size V .byte ∧ V.vm = .none ∧ Z.vm.findClass "[B" = some V.cls ∧ V.slots.size = A.slots.size ∧ ∀ j, j < A.slots.size → V.slots[j]? = some (.int (lo8 (cv A j)))) ∧
  ∀ (O n d : String) (w : Value), RoadKit.Fld Z h x O n d w → RoadKit.slotOf Z O n d ≠ RoadKit.slotOf Z ST "value" "[B" → RoadKit.slotOf Z O n d ≠ RoadKit.slotOf Z ST "coder" "B" → RoadKit.Fld Z h' x O n d w
/-- **new String(chars) AT A CALL, IN THE ROAD'S FORM**: for specialBack behind newO: x the fresh String, b the char[] with the cell A -/
theorem back {p : Program} {l : Launch} {e : Env} {R : Room} {s : State} {args : Array Value} {below : List Frame} {len W : Nat} {Z : State} {a0 : Array Value} {h : Heap} (hZ : Z.Warmed39 s.vm) (hw : ∀ d ∈ words, d.before a0 Z = true) {kI : Nat} (wi : (Jvm.Cond.instantiable ST kI).before a0 Z = true)
    {x b : Addr} {A : Cell} {z : Int32} {v0 c0 : Value} (E : RoadKit.Exa Z h x ST) (V : RoadKit.Fld Z h x ST "value" "[B" v0) (C : RoadKit.Fld Z h x ST "coder" "B" c0) (K : RoadKit.Arr Z h b A .char) (hty : Typed .char A) (S : RoadKit.Sta Z h ST "COMPACT_STRINGS" "Z" (.int z)) (hz : ¬ z = 0)
    (l0 : 0 < A.slots.size) (l2 : A.slots.size ≤ 536870912) (hp : ∀ i, i < A.slots.size → ¬ 255 < cv A i) (hfr : 4 ≤ R.frames) (hlo : W + 65 ≤ R.locals) :
    Back l R p e below s args New1.yN len W (fun P a => a = #[.ref x, .ref b] ∧ P.U.heap = h ∧ P.cells + 1 ≤ R.cells ∧ P.slots + A.slots.size ≤ R.slots)
      (fun P _ v B => ∃ L, Q Z x A h v B.U.heap L ∧ B.locs = P.locs ++ L ∧ B.cells = P.cells + 1 ∧ B.slots = P.slots + A.slots.size) := by
  intro m meth c P g ig mk a X hg hsize hdg hW hn hp'
  obtain ⟨rfl, rfl, r1, r2⟩ := hp'
  have al : Z.vm.Alike P.U.vm := hZ.alike.trans X.warmed.alike
  obtain ⟨D, cfV, kV, iV, fV, hD, gV, stV, knV, obV, asV, slV⟩ := id V
  obtain ⟨D', cfC, kC, iC, fC, hD', gC, stC, -, -, asC, slC⟩ := id C
  cases hD.symm.trans hD'
  obtain ⟨D2, kD, e1, e2, e3, e4, e5⟩ := id E
  cases hD.symm.trans e1
  obtain ⟨c2, k2, i1, i2, i3, -⟩ := Cond.instantiable_spec wi
  cases e2.symm.trans i1
  cases e3.symm.trans i2
  obtain ⟨kU, u1, u2⟩ := al.2.2 _ _ e3
  have hB : Blank ST x D P.U := ⟨hD, ⟨knV, fun q hq => by rw [hq] at obV; cases obV⟩, by rw [al.findClass]; exact e2, kU, u1, by rw [u2]; exact i3, by rw [u2]; exact e5 i3⟩
  have F1 : Found ST "value" "[B" fV P.U := ⟨SBG.found_only al ⟨cfV, kV, iV, gV⟩, stV⟩
  have F2 : Found ST "coder" "B" fC P.U := ⟨SBG.found_only al ⟨cfC, kC, iC, gC⟩, stC⟩
  have hA : Ch b A P.U := ⟨⟨K.1, State.isArrayOf_alike al K.2.1, K.2.2, by omega⟩, hty⟩
  have hS : StaticIs P.U ST "COMPACT_STRINGS" "Z" (.int z) := by
    obtain ⟨cfS, iS, kS, fS, st, cS, t1, t2, t3, t4, t5, t6, t7⟩ := S
    exact StaticIs.there (s := { Z with heap := P.U.heap }) ⟨cfS, iS, kS, fS, st, cS, t1, t2, t3, t4, t5, (fun q => by rw [q] at t6; cases t6), t7⟩ al rfl
  obtain ⟨v, B, X', ⟨⟨hv, E', V', q1, q2, q3, q4, q5, q6, q7, q8, q9, q10, q11⟩, hl, hc, hs⟩, st⟩ := New1.pays x D fV fC b A z (tab_of (moved hZ hw)) hfr hlo m meth c P g ig mk _ X hg hsize hdg hW hn ⟨r1, r2, rfl, hB, F1, F2, hA, hS, hz, l0, l2, hp⟩
  have al' : Z.vm.Alike B.U.vm := hZ.alike.trans X'.warmed.alike
  have hsz : E'.slots.size = D.slots.size := by
    obtain ⟨-, -, -, kB, w1, w2, w3⟩ := q1
    obtain ⟨kB', y1, y2⟩ := al'.2.2 _ _ e3
    rw [q2.2.1] at w1
    cases w1.symm.trans y1
    rw [w3, e5 i3, y2]
  refine ⟨v, B, X', ⟨_, ⟨hv, ?_, ⟨by omega, fun y cy hy hn' => q10 y cy (by simpa using hn') hy, fun y cy hy => ?_⟩, q11, ⟨E', _, q1.1, by rw [q2.2.1]; exact e2, by rw [q2.2.1]; exact e3, by rw [q2.1]; exact obV, fun _ => by rw [hsz]; exact e5 i3⟩,
    ⟨E', cfV, kV, iV, fV, q1.1, gV, stV, by rw [q2.1]; exact knV, by rw [q2.1]; exact obV, by rw [q2.2.1]; exact asV, q3⟩, ⟨E', cfC, kC, iC, fC, q1.1, gC, stC, by rw [q2.1]; exact knV, by rw [q2.1]; exact obV, by rw [q2.2.1]; exact asC, q4⟩,
    ⟨V', ⟨q5.1, State.isArrayOf_alike al'.symm q5.2.1, q5.2.2.1⟩, q6, by rw [← al'.findClass]; exact q7, q8, fun j hj => by have := q9 j hj; rwa [Nat.zero_add] at this⟩, fun O n d w F n1 n2 => ?_⟩, hl, hc, hs⟩, st⟩
  · intro y hy
    simp only [List.mem_cons, List.not_mem_nil, or_false] at hy
    rcases hy with rfl | rfl <;> rfl
  · by_cases q : y = x
    · subst q
      cases hD.symm.trans hy
      exact ⟨E', q1.1, q2.2.1, q2.1, hsz⟩
    · exact ⟨cy, q10 y cy q hy, rfl, rfl, rfl⟩
  · obtain ⟨D3, cf, k, i, f, g1, g2, g3, g4, g5, g6, g7⟩ := F
    cases hD.symm.trans g1
    simp only [RoadKit.slotOf, g2, gV, gC, Option.map_some, Option.getD_some] at n1 n2
    exact ⟨E', cf, k, i, f, q1.1, g2, g3, by rw [q2.1]; exact g4, by rw [q2.1]; exact g5, by rw [q2.2.1]; exact g6, by rw [q2.2.2 f.slot (by simp [n1, n2])]; exact g7⟩
end StrChars.Road
namespace StrChars.Road
open Jvm Sem ClassFile Op Lib Jvm.Stand Jvm.Free Jvm.Free.XT
/-- WHAT COMES BACK, the byte[] as a list of values -/
def QA (Z : State) (x : Addr) (zn : Int32) (cs : List Int32) (h : Heap) (v : Option Value) (h' : Heap) (L : List Loc) : Prop := v = none ∧ (∀ y ∈ L, y.base = x) ∧ RoadKit.Keep h h' [x] ∧ h'.size = h.size + 1 ∧ RoadKit.Exa Z h' x ST ∧ RoadKit.Fld Z h' x ST "value" "[B" (.ref h.size) ∧ RoadKit.Fld Z h' x ST "coder" "B" (.int 0) ∧
  (∃ kb, Z.vm.findClass "[B" = some kb ∧ RoadKit.Arv Z h' h.size kb .byte zn (cs.map fun c => .int (lo8 c)) (.int 0)) ∧
  ∀ (O n d : String) (w : Value), RoadKit.Fld Z h x O n d w → RoadKit.slotOf Z O n d ≠ RoadKit.slotOf Z ST "value" "[B" → RoadKit.slotOf Z O n d ≠ RoadKit.slotOf Z ST "coder" "B" → RoadKit.Fld Z h' x O n d w
/-- **new String(chars) AT A CALL, THE ARRAYS AS LISTS**: the char[] at b holds cs, not empty, no char above 255 -/
theorem backArv {p : Program} {l : Launch} {e : Env} {R : Room} {s : State} {args : Array Value} {below : List Frame} {len W : Nat} {Z : State} {a0 : Array Value} {h : Heap} (hZ : Z.Warmed39 s.vm) (hw : ∀ d ∈ words, d.before a0 Z = true) {kI : Nat} (wi : (Jvm.Cond.instantiable ST kI).before a0 Z = true)
    {x b : Addr} {k : ClassId} {zn z : Int32} {cs : List Int32} {dv v0 c0 : Value} (E : RoadKit.Exa Z h x ST) (V : RoadKit.Fld Z h x ST "value" "[B" v0) (C : RoadKit.Fld Z h x ST "coder" "B" c0) (K : RoadKit.Arv Z h b k .char zn (cs.map Value.int) dv) (S : RoadKit.Sta Z h ST "COMPACT_STRINGS" "Z" (.int z)) (hz : ¬ z = 0)
    (hlen : zn.toNatClampNeg = cs.length) (h0 : 0 < cs.length) (hbig : cs.length ≤ 536870912) (hall : ∀ c ∈ cs, ¬ 255 < c) (hfr : 4 ≤ R.frames) (hlo : W + 65 ≤ R.locals) :
    Back l R p e below s args New1.yN len W (fun P a => a = #[.ref x, .ref b] ∧ P.U.heap = h ∧ P.cells + 1 ≤ R.cells ∧ P.slots + cs.length ≤ R.slots)
      (fun P _ v B => ∃ L, QA Z x zn cs h v B.U.heap L ∧ B.locs = P.locs ++ L ∧ B.cells = P.cells + 1 ∧ B.slots = P.slots + cs.length) := by
  obtain ⟨A, K1, K2, K3, K4, K5, K6⟩ := K
  have e : A.slots.size = cs.length := K3.trans hlen
  have hat : ∀ (i : Nat) (hi : i < cs.length), A.slots[i]? = some (.int cs[i]) := fun i hi => by rw [K5 i (by omega)]; simp [List.getD_eq_getElem?_getD, hi]
  have hcv : ∀ (i : Nat) (hi : i < cs.length), cv A i = cs[i] := fun i hi => by unfold cv; rw [hat i hi]
  have hty : Typed .char A := fun i v hv => by
    have hi : i < A.slots.size := (Array.getElem?_eq_some_iff.mp hv).1
    have q := K5 i hi
    rw [hv] at q
    rw [Option.some.inj q]
    exact K6 i hi
  refine Back.mono (back hZ hw wi E V C K1 hty S hz (by omega) (by omega) (fun i hi => by rw [hcv i (by omega)]; exact hall _ (List.getElem_mem _)) hfr hlo) (fun P a hp => ⟨hp.1, hp.2.1, hp.2.2.1, by rw [e]; exact hp.2.2.2⟩) (fun P a v B hp hq => ?_)
  obtain ⟨L, ⟨q1, q2, q3, q4, q5, q6, q7, ⟨V', v1, v2, v3, v4, v5⟩, q9⟩, hl, hc, hs⟩ := hq
  refine ⟨L, ⟨q1, q2, q3, q4, q5, q6, q7, ⟨V'.cls, v3, V', v1, rfl, by rw [v4, e, hlen], K4, fun i hi => ?_, fun i hi => ?_⟩, q9⟩, hl, hc, by rw [hs, e]⟩
  · have hi' : i < cs.length := by omega
    rw [v5 i (by omega), hcv i hi']; simp [List.getD_eq_getElem?_getD, hi']
  · have hi' : i < cs.length := by omega
    simp only [List.getD_eq_getElem?_getD, List.getElem?_map, List.getElem?_eq_getElem hi', Option.map_some, Option.getD_some]
    exact fits_lo8 _
end StrChars.Road
namespace StrChars.Road
open Jvm Sem ClassFile Op Lib Jvm.Stand Jvm.Free Jvm.Free.XT
/-- WHAT COMES BACK, in the writer's own shape -/
def QV (Z : State) (x : Addr) (N : Int32) (bs : List Int32) (h : Heap) (n0 : Nat) (v : Option Value) (h' : Heap) (L : List Loc) : Prop := v = none ∧ RoadKit.Fr n0 L ∧ RoadKit.Keep h h' [x] ∧ RoadKit.Exa Z h' x ST ∧ RoadKit.Fld Z h' x ST "coder" "B" (.int 0) ∧
  ∃ (t : Addr) (kb : ClassId), n0 ≤ t ∧ h.size ≤ t ∧ ¬ t = x ∧ RoadKit.Fld Z h' x ST "value" "[B" (.ref t) ∧ RoadKit.Arv Z h' t kb .byte N (bs.map Value.int) (.int 0)
/-- **new String(chars) AT A CALL, FOR THE WRITER**: a char[] of n known ints, each 0 to 255 -/
theorem backV {p : Program} {l : Launch} {e : Env} {R : Room} {s : State} {args : Array Value} {below : List Frame} {len W : Nat} {Z : State} {a0 : Array Value} {h : Heap} (hZ : Z.Warmed39 s.vm) (hw : ∀ d ∈ words, d.before a0 Z = true) {kI : Nat} (wi : (Jvm.Cond.instantiable ST kI).before a0 Z = true)
    {x b : Addr} {kC : ClassId} {cs bs : List Int32} {d v0 c0 : Value} {z N : Int32} {n n0 : Nat} (hx0 : n0 ≤ x) (hh0 : n0 ≤ h.size) (E : RoadKit.Exa Z h x ST) (V : RoadKit.Fld Z h x ST "value" "[B" v0) (C : RoadKit.Fld Z h x ST "coder" "B" c0) (K : RoadKit.Arv Z h b kC .char N (cs.map Value.int) d) (S : RoadKit.Sta Z h ST "COMPACT_STRINGS" "Z" (.int z)) (hz : ¬ z = 0)
    (hn : cs.length = n) (hN : N = Int32.ofNat n) (l0 : 0 < n) (l2 : n ≤ 4000) (hp : ∀ c ∈ cs, ¬ c < 0 ∧ ¬ (255 : Int32) < c) (hb : bs = cs.map (fun c => c.toInt8.toInt32)) (hfr : 4 ≤ R.frames) (hlo : W + 65 ≤ R.locals) :
    Back l R p e below s args (⟨"java/lang/String", "<init>", "([C)V"⟩ : MethodName) len W (fun P a => a = #[.ref x, .ref b] ∧ P.U.heap = h ∧ P.cells + 1 ≤ R.cells ∧ P.slots + n ≤ R.slots)
      (fun P _ v B => ∃ L, QV Z x N bs h n0 v B.U.heap L ∧ B.locs = P.locs ++ L ∧ B.cells = P.cells + 1 ∧ B.slots = P.slots + n) := by
  subst hn hN hb
  refine Back.mono (backArv hZ hw wi E V C K S hz (n32 (by omega)) l0 (by omega) (fun c hc => (hp c hc).2) hfr hlo) (fun P a hp => hp) (fun P a v B hp hq => ?_)
  obtain ⟨L, ⟨q1, q2, q3, q4, q5, q6, q7, ⟨kb, v1, v2⟩, q9⟩, hl, hc, hs⟩ := hq
  exact ⟨L, ⟨q1, fun y hy => by rw [q2 y hy]; exact hx0, q3, q5, q7, h.size, kb, hh0, Nat.le_refl _, Nat.ne_of_gt E.lt, q6, by rw [List.map_map]; exact v2⟩, hl, hc, hs⟩
end StrChars.Road
namespace StrChars
open Jvm Sem ClassFile Op Lib Jvm.Stand Jvm.Free.XT Jvm.Free.ALB Jvm.Free.JM Jvm.Free
open Jvm.Lib.Cold (StaticIs)
def hi8 (x : Int32) : Int32 := lo8 (x >>> ((8 : Int32) &&& 31))
/-- what StringUTF16.getChar makes of two bytes -/
def pairCh (u v : Int32) : Int32 := (((u &&& 255) <<< ((0 : Int32) &&& 31)) ||| ((v &&& 255) <<< ((8 : Int32) &&& 31))).toUInt32.toUInt16.toUInt32.toInt32
theorem shr0 (c : Int32) : c >>> ((0 : Int32) &&& 31) = c := by
  have e : ((0 : Int32) &&& 31) = 0 := by decide
  rw [e]
  apply Int32.toBitVec_inj.mp
  rw [Int32.toBitVec_shiftRight]
  have e1 : ((0 : Int32).toBitVec.smod 32) = 0#32 := by decide
  rw [e1, BitVec.sshiftRight_eq']
  exact BitVec.sshiftRight_zero
theorem lo8_and (x : Int32) : (lo8 x &&& 255).toBitVec.toNat = x.toBitVec.toNat % 256 := by
  have h : (lo8 x).toBitVec = (x.toBitVec.signExtend 8).signExtend 32 := by rw [lo8, Int8.toBitVec_toInt32, Int32.toBitVec_toInt8]
  rw [Int32.toBitVec_and, BitVec.toNat_and, h]
  have e : ((x.toBitVec.signExtend 8).signExtend 32).toNat % 256 = x.toBitVec.toNat % 256 := by
    rw [BitVec.toNat_signExtend]
    have hlt := x.toBitVec.isLt
    simp only [BitVec.toNat_setWidth, BitVec.toNat_signExtend]
    split <;> split <;> omega
  rw [← e]
  exact Nat.and_two_pow_sub_one_eq_mod _ 8
theorem pair_says {c : Int32} (h0 : ¬ c < 0) (h1 : ¬ 65535 < c) : pairCh (lo8 c) (hi8 c) = c := by
  rw [Int32.lt_iff_toInt_lt] at h0 h1
  have e0 : (0 : Int32).toInt = 0 := rfl
  have e1 : (65535 : Int32).toInt = 65535 := rfl
  have hc : c.toInt = c.toBitVec.toNat := by
    have := c.toBitVec.isLt
    have e : c.toInt = c.toBitVec.toInt := rfl
    rw [e] at h0 h1
    rw [e]
    rw [BitVec.toInt_eq_toNat_cond] at h0 h1 ⊢
    split at h0 <;> split <;> omega
  have hn : c.toBitVec.toNat < 65536 := by omega
  have a1 := lo8_and c
  have a2 : (hi8 c &&& 255).toBitVec.toNat = c.toBitVec.toNat / 256 := by
    rw [hi8, lo8_and]
    have e : ((8 : Int32) &&& 31) = 8 := by decide
    rw [e, Int32.toBitVec_shiftRight]
    have e2 : ((8 : Int32).toBitVec.smod 32) = 8#32 := by decide
    rw [e2, BitVec.sshiftRight_eq', BitVec.toNat_sshiftRight_of_msb_false (by rw [BitVec.msb_eq_false_iff_two_mul_lt]; omega)]
    show c.toBitVec.toNat >>> 8 % 256 = _
    rw [Nat.shiftRight_eq_div_pow]
    omega
  unfold pairCh
  apply Int32.toBitVec_inj.mp
  apply BitVec.eq_of_toNat_eq
  have f0 : ((0 : Int32) &&& 31) = 0 := by decide
  have f8 : ((8 : Int32) &&& 31) = 8 := by decide
  rw [f0, f8]
  have g : (((lo8 c &&& 255) <<< (0 : Int32)) ||| ((hi8 c &&& 255) <<< (8 : Int32))).toBitVec.toNat = c.toBitVec.toNat := by
    rw [Int32.toBitVec_or, Int32.toBitVec_shiftLeft, Int32.toBitVec_shiftLeft]
    have s0 : ((0 : Int32).toBitVec.smod 32) = 0#32 := by decide
    have s8 : ((8 : Int32).toBitVec.smod 32) = 8#32 := by decide
    rw [s0, s8, BitVec.toNat_or]
    simp only [BitVec.shiftLeft_eq', BitVec.toNat_shiftLeft, a1, a2]
    show (c.toBitVec.toNat % 256) <<< 0 % 2 ^ 32 ||| (c.toBitVec.toNat / 256) <<< 8 % 2 ^ 32 = _
    rw [Nat.shiftLeft_zero, Nat.mod_eq_of_lt (show c.toBitVec.toNat % 256 < 2 ^ 32 by omega), Nat.mod_eq_of_lt (show (c.toBitVec.toNat / 256) <<< 8 < 2 ^ 32 by rw [Nat.shiftLeft_eq]; omega), Nat.or_comm, ← Nat.shiftLeft_add_eq_or_of_lt (by omega), Nat.shiftLeft_eq]
    omega
  show BitVec.toNat (((((lo8 c &&& 255) <<< (0 : Int32)) ||| ((hi8 c &&& 255) <<< (8 : Int32))).toBitVec.setWidth 16).setWidth 32) = _
  rw [BitVec.toNat_setWidth, BitVec.toNat_setWidth, g]
  omega
end StrChars
namespace StrChars
open Jvm Sem ClassFile Op Lib Jvm.Stand Jvm.Free.XT Jvm.Free.ALB Jvm.Free.JM Jvm.Free
open Jvm.Lib.Cold (StaticIs)
theorem shr1 {n : Nat} (h : 2 * n < 2 ^ 31) : Int32.ofNat (2 * n) >>> ((1 : Int32) &&& 31) = Int32.ofNat n := by
  have e : ((1 : Int32) &&& 31) = 1 := by decide
  rw [e]
  apply Int32.toBitVec_inj.mp
  rw [Int32.toBitVec_shiftRight]
  have e1 : ((1 : Int32).toBitVec.smod 32) = 1#32 := by decide
  have hm : (BitVec.ofNat 32 (2 * n)).toNat = 2 * n := by rw [BitVec.toNat_ofNat, Nat.mod_eq_of_lt (by omega)]
  rw [e1, BitVec.sshiftRight_eq']
  apply BitVec.eq_of_toNat_eq
  show ((BitVec.ofNat 32 (2 * n)).sshiftRight 1).toNat = (BitVec.ofNat 32 n).toNat
  rw [BitVec.toNat_sshiftRight_of_msb_false (by rw [BitVec.msb_eq_false_iff_two_mul_lt, hm]; omega), hm, BitVec.toNat_ofNat, Nat.shiftRight_eq_div_pow]
  omega
/-- charAt's cast of a byte read back -/
def chr8 (u : Int32) : Int32 := (u &&& 255).toUInt32.toUInt16.toUInt32.toInt32
theorem chr8_lo8 {c : Int32} (h0 : ¬ c < 0) (h1 : ¬ 255 < c) : chr8 (lo8 c) = c := by
  have t : ∀ k : Fin 256, (Int32.ofNat k.val).toUInt32.toUInt16.toUInt32.toInt32 = Int32.ofNat k.val := by decide +kernel
  unfold chr8
  rw [lo8_mask h0 h1]
  rw [Int32.lt_iff_toInt_lt] at h0 h1
  have e0 : (0 : Int32).toInt = 0 := rfl
  have e1 : (255 : Int32).toInt = 255 := rfl
  obtain ⟨k, hk⟩ : ∃ k : Nat, c.toInt = k := ⟨c.toInt.toNat, by omega⟩
  have hx : c = Int32.ofNat k := Int32.toInt_inj.mp (by rw [hk, Int32.toInt_ofNat_small (by omega)])
  rw [hx]
  exact t ⟨k, by omega⟩
theorem narrow_ch {c : Int32} (h0 : ¬ c < 0) (h1 : ¬ 65535 < c) : narrow .char (.int c) = .int c := by
  have q : narrow .char (.int (pairCh (lo8 c) (hi8 c))) = .int (pairCh (lo8 c) (hi8 c)) := narrow_c _
  rwa [pair_says h0 h1] at q
/-- the array's cell V codes the n chars f 0 .. f (n - 1) by the coder cd, as the JDK does: coder 1 just where some char is above 255 -/
def Cod (cd : Int32) (n : Nat) (f : Nat → Int32) (V : Cell) : Prop := (cd = 0 ∧ V.slots.size = n ∧ ∀ j, j < n → V.slots[j]? = some (.int (lo8 (f j))) ∧ ¬ 255 < f j) ∨ (cd = 1 ∧ V.slots.size = 2 * n ∧ (∀ j, j < n → V.slots[2 * j]? = some (.int (lo8 (f j))) ∧ V.slots[2 * j + 1]? = some (.int (hi8 (f j)))) ∧ ∃ j, j < n ∧ 255 < f j)
theorem Cod.cd {cd : Int32} {n : Nat} {f : Nat → Int32} {V : Cell} (h : Cod cd n f V) : cd = 0 ∨ cd = 1 := h.imp (fun q => q.1) fun q => q.1
theorem Cod.len {cd : Int32} {n : Nat} {f : Nat → Int32} {V : Cell} (h : Cod cd n f V) (hs : V.slots.size < 2 ^ 31) : Int32.ofNat V.slots.size >>> (cd &&& 31) = Int32.ofNat n := by
  rcases h with ⟨rfl, h, -⟩ | ⟨rfl, h, -⟩
  · rw [shr0, h]
  · rw [h, shr1 (by omega)]
/-- **x is a String of the n chars f 0 .. f (n - 1)**, Latin-1 or UTF-16; its array at t has the cell V -/
def Txt (x t : Addr) (V : Cell) (cd : Int32) (n : Nat) (f : Nat → Int32) (U : State) : Prop := Exact "java/lang/String" x U ∧ Has x "java/lang/String" "value" "[B" (.ref t) U ∧ Has x "java/lang/String" "coder" "B" (.int cd) U ∧ XT.Arr .byte t V U ∧ Cod cd n f V ∧ ∀ j, j < n → ¬ f j < 0 ∧ ¬ 65535 < f j
theorem Txt.mv {x t : Addr} {V : Cell} {cd : Int32} {n : Nat} {f : Nat → Int32} {U U' : State} (h : Txt x t V cd n f U) (hal : U.vm.Alike U'.vm) (hh : U'.heap = U.heap) : Txt x t V cd n f U' := ⟨h.1.mv hal hh, h.2.1.mv hal hh, h.2.2.1.mv hal hh, h.2.2.2.1.mv hal hh, h.2.2.2.2⟩
namespace Cdr
def yN : MethodName := ⟨"java/lang/String", "coder", "()B"⟩
abbrev yB : ByteArray := jdk_42_method_152_code
theorem d0 : decode yB 0 = .ok (.getstatic 38, 3) := by decide +kernel
theorem d3 : decode yB 3 = .ok (.ifCond (.eq) 10, 3) := by decide +kernel
theorem d6 : decode yB 6 = .ok (.aload_n 0, 1) := by decide +kernel
theorem d7 : decode yB 7 = .ok (.getfield 15, 3) := by decide +kernel
theorem d10 : decode yB 10 = .ok (.goto 4, 3) := by decide +kernel
theorem d14 : decode yB 14 = .ok (.ireturn, 1) := by decide +kernel
def site : List Cond := [.fieldLink "java/lang/String" 38 "java/lang/String" "COMPACT_STRINGS" "Z", .fieldLink "java/lang/String" 15 "java/lang/String" "coder" "B"]
def tab : Cond := tabOf yN yB 1 (some .byte) site
def P (x : Addr) (cd z : Int32) (args : Array Value) (s : State) : Prop := args = #[.ref x] ∧ Has x "java/lang/String" "coder" "B" (.int cd) s ∧ (cd = 0 ∨ cd = 1) ∧ StaticIs s "java/lang/String" "COMPACT_STRINGS" "Z" (.int z) ∧ ¬ z = 0
def E (cd : Int32) (r : Option Value) (s u : State) : Prop := XT.PureE (some (.int cd)) r s u
theorem law (l : Launch) (x : Addr) (cd z : Int32) : Law l yN 1 0 0 0 yB 1 (some .byte) site (P x cd z) (E cd) [] 0 0 := by
  refine Law.of_walk (plainFor_of_name (by decide +kernel)) (by decide +kernel) (by decide +kernel) (by decide) (fun _ _ h => by rw [h.1]; rfl) (fun _ U U' hal hh h => ⟨h.1, h.2.1.mv hal hh, h.2.2.1, h.2.2.2.1.there hal hh, h.2.2.2.2⟩) (fun r U U' V V' h1 hal h2 h => XT.PureE.mv r U U' V V' h1 hal h2 h) ?_
  intro p e s m args below meth c s₁ X0 hexec hbytes hml hret hlk hnm hown hh0 W hP
  obtain ⟨rfl, hx, hc, s1, hz⟩ := hP
  have c1 : Steps p.tables e below (s₁.setTop (entryFrame m #[.ref x] 1)) (s₁.setTop (mkF m 0 #[.val (.ref x)] [])) := entry rfl
  obtain ⟨T2, X2, q2, st2⟩ := X0.sget hexec hown (wk W (.fieldLink "java/lang/String" 38 "java/lang/String" "COMPACT_STRINGS" "Z")) s1 (fun _ _ h => by rw [hh0]; exact h) (g := (mkF m 0 #[.val (.ref x)] [])) rfl (hb hbytes d0)
  have hh2 := q2.trans hh0
  have c3 : Steps p.tables e below (s₁.setTop (entryFrame m #[.ref x] 1)) (T2.setTop (mkF m 7 #[.val (.ref x)] [.ref x])) := (c1.trans (st2 _ (Steps.refl _))).trans (by
    refine XS.ifNo X2.here hexec rfl (hb hbytes d3) rfl (i0_eq_f hz) ?_
    refine XS.aloadN X2.here hexec rfl (hb hbytes d6) rfl rfl ?_
    exact Steps.refl _)
  obtain ⟨T4, X4, q4, st4⟩ := X2.hget hexec hown (wk W (.fieldLink "java/lang/String" 15 "java/lang/String" "coder" "B")) (hx.mv X2.warmed.alike hh2) (g := (mkF m 7 #[.val (.ref x)] [.ref x])) rfl (rest := []) rfl (hb hbytes d7)
  have c5 : Steps p.tables e below (s₁.setTop (entryFrame m #[.ref x] 1)) (T4.setTop (mkF m 14 #[.val (.ref x)] [.int cd])) := (c3.trans (st4 _ (Steps.refl _))).trans (by
    refine XS.goto X4.here hexec rfl (pc0 := 10) rfl (hb hbytes d10) (by decide) rfl ?_
    exact Steps.refl _)
  exact ⟨T4, some (.int cd), _, _, _, X4, rfl, rfl, rfl, (fun h => by cases h), ⟨rfl, q4.trans hh2⟩, fun fs hl => c5.trans (X4.ireturnOut hexec hret (by rcases hc with rfl | rfl <;> rfl) (Or.inr (Or.inr (Or.inl rfl))) (hb hbytes d14) hl)⟩
end Cdr
namespace Len
def yN : MethodName := ⟨"java/lang/String", "length", "()I"⟩
abbrev yB : ByteArray := jdk_42_method_54_code
theorem d0 : decode yB 0 = .ok (.aload_n 0, 1) := by decide +kernel
theorem d1 : decode yB 1 = .ok (.getfield 9, 3) := by decide +kernel
theorem d4 : decode yB 4 = .ok (.arraylength, 1) := by decide +kernel
theorem d5 : decode yB 5 = .ok (.aload_n 0, 1) := by decide +kernel
theorem d6 : decode yB 6 = .ok (.invokevirtual 335, 3) := by decide +kernel
theorem d9 : decode yB 9 = .ok (.ishr, 1) := by decide +kernel
theorem d10 : decode yB 10 = .ok (.ireturn, 1) := by decide +kernel
def site : List Cond := [.fieldLink "java/lang/String" 9 "java/lang/String" "value" "[B", Cdr.tab] ++ virtW "java/lang/String" 335 "java/lang/String" Cdr.yN Cdr.yN
def tab : Cond := tabOf yN yB 1 (some .int) site
def P (x t : Addr) (V : Cell) (cd : Int32) (n : Nat) (f : Nat → Int32) (z : Int32) (args : Array Value) (s : State) : Prop := args = #[.ref x] ∧ Txt x t V cd n f s ∧ StaticIs s "java/lang/String" "COMPACT_STRINGS" "Z" (.int z) ∧ ¬ z = 0
def E (n : Nat) (r : Option Value) (s u : State) : Prop := XT.PureE (some (.int (Int32.ofNat n))) r s u
/-- length() of a String of n chars, in either coding -/
theorem law (l : Launch) (x t : Addr) (V : Cell) (cd : Int32) (n : Nat) (f : Nat → Int32) (z : Int32) : Law l yN 1 0 1 13 yB 1 (some .int) site (P x t V cd n f z) (E n) [] 0 0 := by
  refine Law.of_walk (plainFor_of_name (by decide +kernel)) (by decide +kernel) (by decide +kernel) (by decide) (fun _ _ h => by rw [h.1]; rfl) (fun _ U U' hal hh h => ⟨h.1, h.2.1.mv hal hh, h.2.2.1.there hal hh, h.2.2.2⟩) (fun r U U' V V' h1 hal h2 h => XT.PureE.mv r U U' V V' h1 hal h2 h) ?_
  intro p e s m args below meth c s₁ X0 hexec hbytes hml hret hlk hnm hown hh0 W hP
  obtain ⟨rfl, hx, s1, hz⟩ := hP
  have v31 := hx.2.2.2.1.2.2.2
  have c1 : Steps p.tables e below (s₁.setTop (entryFrame m #[.ref x] 1)) (s₁.setTop (mkF m 1 #[.val (.ref x)] [.ref x])) := Steps.trans (entry rfl) (by
    show Steps p.tables e below (s₁.setTop (mkF m 0 #[.val (.ref x)] [])) _
    refine XS.aloadN X0.here hexec rfl (hb hbytes d0) rfl rfl ?_
    exact Steps.refl _)
  obtain ⟨T2, X2, q2, st2⟩ := X0.hget hexec hown (wk W (.fieldLink "java/lang/String" 9 "java/lang/String" "value" "[B")) (hx.mv X0.warmed.alike hh0).2.1 (g := (mkF m 1 #[.val (.ref x)] [.ref x])) rfl (rest := []) rfl (hb hbytes d1)
  have hh2 := q2.trans hh0
  have hx2 := hx.mv X2.warmed.alike hh2
  have c3 : Steps p.tables e below (s₁.setTop (entryFrame m #[.ref x] 1)) (T2.setTop (mkF m 6 #[.val (.ref x)] [.ref x, .int (Int32.ofNat V.slots.size)])) := (c1.trans (st2 _ (Steps.refl _))).trans (by
    refine X2.alen hexec hx2.2.2.2.1 rfl rfl (hb hbytes d4) ?_
    refine XS.aloadN X2.here hexec rfl (hb hbytes d5) rfl rfl ?_
    exact Steps.refl _)
  obtain ⟨v4, T4, X4, E4, g4⟩ := X2.callV hexec (Cdr.law l x cd z) hown (wks W (virtW "java/lang/String" 335 "java/lang/String" Cdr.yN Cdr.yN)) rfl (by decide) (wk W Cdr.tab) (W := 1) (Nat.le_of_ble_eq_true rfl) (Nat.le_of_ble_eq_true rfl) (Nat.le_refl _) (Nat.le_refl _) (hx2.1.fc X2.warmed.alike) hx2.1.is (g := (mkF m 6 #[.val (.ref x)] [.ref x, .int (Int32.ofNat V.slots.size)])) rfl (by rw [hml]; rfl) c3 (argsL := []) (rest := [.int (Int32.ofNat V.slots.size)]) rfl rfl (by show 2 * 0 + (1 + 0) ≤ _; decide) (hb hbytes d6) (⟨rfl, hx2.2.2.1, hx.2.2.2.2.1.cd, s1.there X2.warmed.alike hh2, hz⟩)
  obtain ⟨rfl, q4⟩ := E4
  have c5 : Steps p.tables e below (s₁.setTop (entryFrame m #[.ref x] 1)) (T4.setTop (mkF m 10 #[.val (.ref x)] [.int (Int32.ofNat V.slots.size >>> (cd &&& 31))])) := Steps.trans g4 (by
    refine ishr X4.here hexec rfl (hb hbytes d9) rfl ?_
    exact Steps.refl _)
  rw [hx.2.2.2.2.1.len v31] at c5
  exact ⟨T4, some (.int (Int32.ofNat n)), _, _, _, X4, rfl, rfl, rfl, (fun h => by cases h), ⟨rfl, q4.trans hh2⟩, fun fs hl => c5.trans (X4.ireturnOut hexec hret rfl (Or.inl rfl) (hb hbytes d10) hl)⟩
theorem pays {l : Launch} {R : Room} {p : Program} {e : Env} {below : List Frame} {s : State} {sargs : Array Value} {len W : Nat} (x t : Addr) (V : Cell) (cd : Int32) (n : Nat) (f : Nat → Int32) (z : Int32) (htab : tab.before sargs s = true) (hfr : 2 ≤ R.frames) (hlo : W + 25 ≤ R.locals) :
    Back l R p e below s sargs yN len W (fun A₁ a₁ => A₁.cells + 0 ≤ R.cells ∧ A₁.slots + 0 ≤ R.slots ∧ P x t V cd n f z a₁ A₁.U) (fun A₁ _ v₁ B₁ => E n v₁ A₁.U B₁.U ∧ B₁.locs = A₁.locs ++ [] ∧ B₁.cells = A₁.cells + 0 ∧ B₁.slots = A₁.slots + 0) :=
  (law l x t V cd n f z).pays htab hfr (by omega)
end Len
namespace IsL
def yN : MethodName := ⟨"java/lang/String", "isLatin1", "()Z"⟩
abbrev yB : ByteArray := jdk_42_method_154_code
theorem d0 : decode yB 0 = .ok (.getstatic 38, 3) := by decide +kernel
theorem d3 : decode yB 3 = .ok (.ifCond (.eq) 14, 3) := by decide +kernel
theorem d6 : decode yB 6 = .ok (.aload_n 0, 1) := by decide +kernel
theorem d7 : decode yB 7 = .ok (.getfield 15, 3) := by decide +kernel
theorem d10 : decode yB 10 = .ok (.ifCond (.ne) 7, 3) := by decide +kernel
theorem d13 : decode yB 13 = .ok (.iconst 1, 1) := by decide +kernel
theorem d14 : decode yB 14 = .ok (.goto 4, 3) := by decide +kernel
theorem d17 : decode yB 17 = .ok (.iconst 0, 1) := by decide +kernel
theorem d18 : decode yB 18 = .ok (.ireturn, 1) := by decide +kernel
def site : List Cond := [.fieldLink "java/lang/String" 38 "java/lang/String" "COMPACT_STRINGS" "Z", .fieldLink "java/lang/String" 15 "java/lang/String" "coder" "B"]
def tab : Cond := tabOf yN yB 1 (some .boolean) site
def P (x : Addr) (cd z : Int32) (args : Array Value) (s : State) : Prop := args = #[.ref x] ∧ Has x "java/lang/String" "coder" "B" (.int cd) s ∧ (cd = 0 ∨ cd = 1) ∧ StaticIs s "java/lang/String" "COMPACT_STRINGS" "Z" (.int z) ∧ ¬ z = 0
def E (cd : Int32) (r : Option Value) (s u : State) : Prop := XT.PureE (some (.int (1 - cd))) r s u
theorem law (l : Launch) (x : Addr) (cd z : Int32) : Law l yN 1 0 0 0 yB 1 (some .boolean) site (P x cd z) (E cd) [] 0 0 := by
  refine Law.of_walk (plainFor_of_name (by decide +kernel)) (by decide +kernel) (by decide +kernel) (by decide) (fun _ _ h => by rw [h.1]; rfl) (fun _ U U' hal hh h => ⟨h.1, h.2.1.mv hal hh, h.2.2.1, h.2.2.2.1.there hal hh, h.2.2.2.2⟩) (fun r U U' V V' h1 hal h2 h => XT.PureE.mv r U U' V V' h1 hal h2 h) ?_
  intro p e s m args below meth c s₁ X0 hexec hbytes hml hret hlk hnm hown hh0 W hP
  obtain ⟨rfl, hx, hc, s1, hz⟩ := hP
  have c1 : Steps p.tables e below (s₁.setTop (entryFrame m #[.ref x] 1)) (s₁.setTop (mkF m 0 #[.val (.ref x)] [])) := entry rfl
  obtain ⟨T2, X2, q2, st2⟩ := X0.sget hexec hown (wk W (.fieldLink "java/lang/String" 38 "java/lang/String" "COMPACT_STRINGS" "Z")) s1 (fun _ _ h => by rw [hh0]; exact h) (g := (mkF m 0 #[.val (.ref x)] [])) rfl (hb hbytes d0)
  have hh2 := q2.trans hh0
  have c3 : Steps p.tables e below (s₁.setTop (entryFrame m #[.ref x] 1)) (T2.setTop (mkF m 7 #[.val (.ref x)] [.ref x])) := (c1.trans (st2 _ (Steps.refl _))).trans (by
    refine XS.ifNo X2.here hexec rfl (hb hbytes d3) rfl (i0_eq_f hz) ?_
    refine XS.aloadN X2.here hexec rfl (hb hbytes d6) rfl rfl ?_
    exact Steps.refl _)
  obtain ⟨T4, X4, q4, st4⟩ := X2.hget hexec hown (wk W (.fieldLink "java/lang/String" 15 "java/lang/String" "coder" "B")) (hx.mv X2.warmed.alike hh2) (g := (mkF m 7 #[.val (.ref x)] [.ref x])) rfl (rest := []) rfl (hb hbytes d7)
  have c5 : Steps p.tables e below (s₁.setTop (entryFrame m #[.ref x] 1)) (T4.setTop (mkF m 10 #[.val (.ref x)] [.int cd])) := c3.trans (st4 _ (Steps.refl _))
  have c6 : Steps p.tables e below (s₁.setTop (entryFrame m #[.ref x] 1)) (T4.setTop (mkF m 18 #[.val (.ref x)] [.int (1 - cd)])) := by
    rcases hc with rfl | rfl
    · exact c5.trans (by
        refine XS.ifNo X4.here hexec rfl (hb hbytes d10) rfl (i0_ne_f rfl) ?_
        refine iconstV X4.here hexec rfl 1 (hb hbytes d13) (by decide) ?_
        refine XS.goto X4.here hexec rfl (pc0 := 14) rfl (hb hbytes d14) (by decide) rfl ?_
        exact Steps.refl _)
    · exact c5.trans (by
        refine XS.ifYes X4.here hexec rfl (pc0 := 10) rfl (hb hbytes d10) rfl (i0_ne_t (by decide)) (by decide) rfl ?_
        refine iconstV X4.here hexec rfl 0 (hb hbytes d17) (by decide) ?_
        exact Steps.refl _)
  exact ⟨T4, some (.int (1 - cd)), _, _, _, X4, rfl, rfl, rfl, (fun h => by cases h), ⟨rfl, q4.trans hh2⟩, fun fs hl => c6.trans (X4.ireturnOut hexec hret (by rcases hc with rfl | rfl <;> rfl) (Or.inr (Or.inl rfl)) (hb hbytes d18) hl)⟩
end IsL
namespace LChA
def yN : MethodName := ⟨"java/lang/StringLatin1", "charAt", "([BI)C"⟩
abbrev yB : ByteArray := jdk_43_method_2_code
theorem d0 : decode yB 0 = .ok (.iload_n 1, 1) := by decide +kernel
theorem d1 : decode yB 1 = .ok (.aload_n 0, 1) := by decide +kernel
theorem d2 : decode yB 2 = .ok (.arraylength, 1) := by decide +kernel
theorem d3 : decode yB 3 = .ok (.invokestatic 9, 3) := by decide +kernel
theorem d6 : decode yB 6 = .ok (.aload_n 0, 1) := by decide +kernel
theorem d7 : decode yB 7 = .ok (.iload_n 1, 1) := by decide +kernel
theorem d8 : decode yB 8 = .ok (.baload, 1) := by decide +kernel
theorem d9 : decode yB 9 = .ok (.sipush 255, 3) := by decide +kernel
theorem d12 : decode yB 12 = .ok (.iand, 1) := by decide +kernel
theorem d13 : decode yB 13 = .ok (.i2c, 1) := by decide +kernel
theorem d14 : decode yB 14 = .ok (.ireturn, 1) := by decide +kernel
def site : List Cond := [JO.Str_checkIndex.tab] ++ staticW "java/lang/StringLatin1" 9 JO.Str_checkIndex.yN
def tab : Cond := tabOf yN yB 2 (some .char) site
def P (t : Addr) (V : Cell) (i : Nat) (u : Int32) (fm : Value) (args : Array Value) (s : State) : Prop := args = #[.ref t, .int (Int32.ofNat i)] ∧ XT.Arr .byte t V s ∧ V.slots[i]? = some (.int u) ∧ (StaticIs s "jdk/internal/util/Preconditions" "SIOOBE_FORMATTER" "Ljava/util/function/BiFunction;" fm ∧ fm.isRef = true)
def E (u : Int32) (r : Option Value) (s w : State) : Prop := XT.PureE (some (.int (chr8 u))) r s w
theorem law (l : Launch) (t : Addr) (V : Cell) (i : Nat) (u : Int32) (fm : Value) : Law l yN 2 2 2 27 yB 2 (some .char) site (P t V i u fm) (E u) [] 0 0 := by
  refine Law.of_walk (plainFor_of_name (by decide +kernel)) (by decide +kernel) (by decide +kernel) (by decide) (fun _ _ h => by rw [h.1]; rfl) (fun _ U U' hal hh h => ⟨h.1, h.2.1.mv hal hh, h.2.2.1, h.2.2.2.1.there hal hh, h.2.2.2.2⟩) (fun r U U' V V' h1 hal h2 h => XT.PureE.mv r U U' V V' h1 hal h2 h) ?_
  intro p e s m args below meth c s₁ X0 hexec hbytes hml hret hlk hnm hown hh0 W hP
  obtain ⟨rfl, hV, hu, s1, rf⟩ := hP
  have v31 := hV.2.2.2
  have hi : i < V.slots.size := (Array.getElem?_eq_some_iff.mp hu).1
  have c1 : Steps p.tables e below (s₁.setTop (entryFrame m #[.ref t, .int (Int32.ofNat i)] 2)) (s₁.setTop (mkF m 0 #[.val (.ref t), .val (.int (Int32.ofNat i))] [])) := entry rfl
  have c2 : Steps p.tables e below (s₁.setTop (entryFrame m #[.ref t, .int (Int32.ofNat i)] 2)) (s₁.setTop (mkF m 3 #[.val (.ref t), .val (.int (Int32.ofNat i))] [.int (Int32.ofNat V.slots.size), .int (Int32.ofNat i)])) := c1.trans (by
    refine XS.iloadN X0.here hexec rfl (hb hbytes d0) rfl ?_
    refine XS.aloadN X0.here hexec rfl (hb hbytes d1) rfl rfl ?_
    refine X0.alen hexec (hV.mv X0.warmed.alike hh0) rfl rfl (hb hbytes d2) ?_
    exact Steps.refl _)
  obtain ⟨v3, T3, X3, E3, g3⟩ := X0.callS hexec (JO.Str_checkIndex.law l (Int32.ofNat i) (Int32.ofNat V.slots.size) fm) hown (wks W (staticW "java/lang/StringLatin1" 9 JO.Str_checkIndex.yN)) (wk W JO.Str_checkIndex.tab) (W := 0) (Nat.le_of_ble_eq_true rfl) (Nat.le_of_ble_eq_true rfl) (Nat.le_refl _) (Nat.le_refl _) (g := (mkF m 3 #[.val (.ref t), .val (.int (Int32.ofNat i))] [.int (Int32.ofNat V.slots.size), .int (Int32.ofNat i)])) rfl (by rw [hml]; rfl) c2 (argsL := [.int (Int32.ofNat i), .int (Int32.ofNat V.slots.size)]) (rest := []) rfl rfl (by show 2 * 0 + 0 ≤ _; decide) (hb hbytes d3) (⟨rfl, rf, s1.there X0.warmed.alike hh0, Int32.ofNat_not_neg (by omega), lt32 v31 hi⟩)
  obtain ⟨rfl, q3⟩ := E3
  have hh3 := q3.trans hh0
  have c4 : Steps p.tables e below (s₁.setTop (entryFrame m #[.ref t, .int (Int32.ofNat i)] 2)) (T3.setTop (mkF m 14 #[.val (.ref t), .val (.int (Int32.ofNat i))] [.int (chr8 u)])) := Steps.trans g3 (by
    refine XS.aloadN X3.here hexec rfl (hb hbytes d6) rfl rfl ?_
    refine XS.iloadN X3.here hexec rfl (hb hbytes d7) rfl ?_
    refine X3.aget hexec (hV.mv X3.warmed.alike hh3) rfl hu rfl rfl (hb hbytes d8) ?_
    refine sipushV X3.here hexec rfl 255 (hb hbytes d9) (by decide) ?_
    refine XS.iand X3.here hexec rfl (hb hbytes d12) rfl ?_
    refine i2c X3.here hexec rfl (hb hbytes d13) rfl ?_
    exact Steps.refl _)
  exact ⟨T3, some (.int (chr8 u)), _, _, _, X3, rfl, rfl, rfl, (fun h => by cases h), ⟨rfl, hh3⟩, fun fs hl => c4.trans (X3.ireturnOut hexec hret (narrow_c _) (Or.inr (Or.inr (Or.inr (Or.inl rfl)))) (hb hbytes d14) hl)⟩
end LChA
end StrChars
namespace StrChars.Road
open Jvm Sem ClassFile Op Lib Jvm.Stand Jvm.Free Jvm.Free.XT
open Jvm.Lib.Cold (StaticIs)
theorem consq {a : Array Value} {s : State} {c : Jvm.Cond} {L : List Jvm.Cond} (h0 : c.before a s = true) (h : ∀ w ∈ L, w.before a s = true) : ∀ w ∈ c :: L, w.before a s = true := fun w hw => (List.mem_cons.mp hw).elim (fun e => e ▸ h0) (h w)
/-- the words of String.length(), either coding -/
abbrev wordsLen : List Jvm.Cond := [.code Len.yN Len.yB 1 (some .int), .initialized ST, .fieldLink ST 9 ST "value" "[B", .fieldLink ST 38 ST "COMPACT_STRINGS" "Z", .fieldLink ST 15 ST "coder" "B", .code Cdr.yN Cdr.yB 1 (some .byte), .methodLink ST 335 Cdr.yN, .declares Cdr.yN, .selects ST Cdr.yN Cdr.yN, .instanceMethod Cdr.yN]
theorem tabLen_of {a : Array Value} {s : State} (h : ∀ w ∈ wordsLen, w.before a s = true) : Len.tab.before a s = true := by
  have hc : Cdr.tab.before a s = true := unparts (wk h (.code Cdr.yN Cdr.yB 1 (some .byte))) (wks h (.initialized Cdr.yN.cls :: Cdr.site))
  have q := consq hc h
  exact unparts (wk q (.code Len.yN Len.yB 1 (some .int))) (wks q (.initialized Len.yN.cls :: Len.site))
theorem movedLen {Z s : State} {a0 args : Array Value} (hZ : Z.Warmed39 s.vm) (hw : ∀ d ∈ wordsLen, d.before a0 Z = true) : ∀ d ∈ wordsLen, d.before args s = true := fun d hd => by
  have q := hw d hd
  have t : ∀ d ∈ wordsLen, d = .arrayClass .byte ∨ (d.onTables && d.keepsFace) = true := by decide +kernel
  rcases t d hd with rfl | t
  · exact RoadKit.mvA hZ q
  · exact RoadKit.mv hZ q t
/-- the bytes of the chars cs, low before high -/
def wideBytes : List Int32 → List Value
  | [] => []
  | c :: cs => .int (lo8 c) :: .int (hi8 c) :: wideBytes cs
theorem wide_lo (d : Value) : ∀ (cs : List Int32) (j : Nat), j < cs.length → (wideBytes cs).getD (2 * j) d = .int (lo8 (cs.getD j 0))
  | [], j, h => absurd h (Nat.not_lt_zero j)
  | c :: cs, 0, _ => rfl
  | c :: cs, j + 1, h => by
    have q := wide_lo d cs j (by simpa using h)
    rw [show 2 * (j + 1) = 2 * j + 1 + 1 from by omega]
    simpa [wideBytes] using q
theorem wide_hi (d : Value) : ∀ (cs : List Int32) (j : Nat), j < cs.length → (wideBytes cs).getD (2 * j + 1) d = .int (hi8 (cs.getD j 0))
  | [], j, h => absurd h (Nat.not_lt_zero j)
  | c :: cs, 0, _ => rfl
  | c :: cs, j + 1, h => by
    have q := wide_hi d cs j (by simpa using h)
    rw [show 2 * (j + 1) + 1 = 2 * j + 1 + 1 + 1 from by omega]
    simpa [wideBytes] using q
theorem low_at (d : Value) (cs : List Int32) (j : Nat) (h : j < cs.length) : (cs.map fun c => Value.int (lo8 c)).getD j d = .int (lo8 (cs.getD j 0)) := by
  simp [List.getD_eq_getElem?_getD, h]
/-- an array of N2 bytes vs codes the chars cs by the coder cd -/
def CodA (cs : List Int32) (cd N2 : Int32) (vs : List Value) : Prop := (cd = 0 ∧ N2 = Int32.ofNat cs.length ∧ vs = (cs.map fun c => Value.int (lo8 c)) ∧ ∀ c ∈ cs, ¬ 255 < c) ∨ (cd = 1 ∧ N2 = Int32.ofNat (2 * cs.length) ∧ vs = wideBytes cs ∧ ∃ c ∈ cs, 255 < c)
theorem CodA.cod {cs : List Int32} {cd N2 : Int32} {vs : List Value} {V : Cell} (h : CodA cs cd N2 vs) (hn : 2 * cs.length < 2 ^ 31) (hs : V.slots.size = N2.toNatClampNeg) (hv : RoadKit.Has V vs (.int 0)) : Cod cd cs.length (fun j => cs.getD j 0) V := by
  rcases h with ⟨rfl, rfl, rfl, h⟩ | ⟨rfl, rfl, rfl, c, hc, hw⟩
  · rw [n32 (by omega)] at hs
    exact Or.inl ⟨rfl, hs, fun j hj => ⟨by rw [hv j (by omega), low_at _ _ _ hj], by
      have e : cs.getD j 0 = cs[j] := by simp [List.getD_eq_getElem?_getD, hj]
      show ¬ 255 < cs.getD j 0
      rw [e]; exact h _ (List.getElem_mem _)⟩⟩
  · rw [n32 (by omega)] at hs
    obtain ⟨j, hj, rfl⟩ := List.getElem_of_mem hc
    exact Or.inr ⟨rfl, hs, fun j hj => ⟨by rw [hv _ (by omega), wide_lo _ _ _ hj], by rw [hv _ (by omega), wide_hi _ _ _ hj]⟩, j, hj, by
      have e : cs.getD j 0 = cs[j] := by simp [List.getD_eq_getElem?_getD, hj]
      show 255 < cs.getD j 0
      rw [e]; exact hw⟩
/-- an object of exactly java/lang/String, its two fields found: as the laws ask it -/
theorem strObj {Z U : State} {a0 : Array Value} {kI : Nat} (wi : (Jvm.Cond.instantiable ST kI).before a0 Z = true) (al : Z.vm.Alike U.vm) {x : Addr} {v0 c0 : Value} (E : RoadKit.Exa Z U.heap x ST) (V : RoadKit.Fld Z U.heap x ST "value" "[B" v0) (C : RoadKit.Fld Z U.heap x ST "coder" "B" c0) :
    ∃ (D : Cell) (fV fC : Field), Blank ST x D U ∧ Found ST "value" "[B" fV U ∧ Found ST "coder" "B" fC U ∧ D.slots[fV.slot]? = some v0 ∧ D.slots[fC.slot]? = some c0 ∧ RoadKit.slotOf Z ST "value" "[B" = fV.slot ∧ RoadKit.slotOf Z ST "coder" "B" = fC.slot := by
  obtain ⟨D, cfV, kV, iV, fV, hD, gV, stV, knV, obV, asV, slV⟩ := V
  obtain ⟨D', cfC, kC, iC, fC, hD', gC, stC, -, -, asC, slC⟩ := C
  cases hD.symm.trans hD'
  obtain ⟨D2, kD, e1, e2, e3, e4, e5⟩ := E
  cases hD.symm.trans e1
  obtain ⟨c2, k2, i1, i2, i3, -⟩ := Cond.instantiable_spec wi
  cases e2.symm.trans i1
  cases e3.symm.trans i2
  obtain ⟨kU, u1, u2⟩ := al.2.2 _ _ e3
  exact ⟨D, fV, fC, ⟨hD, ⟨knV, fun q hq => by rw [hq] at obV; cases obV⟩, by rw [al.findClass]; exact e2, kU, u1, by rw [u2]; exact i3, by rw [u2]; exact e5 i3⟩, ⟨SBG.found_only al ⟨cfV, kV, iV, gV⟩, stV⟩, ⟨SBG.found_only al ⟨cfC, kC, iC, gC⟩, stC⟩, slV, slC, by simp [RoadKit.slotOf, gV], by simp [RoadKit.slotOf, gC]⟩
theorem sta_is {Z U : State} (al : Z.vm.Alike U.vm) {C n d : String} {v : Value} (S : RoadKit.Sta Z U.heap C n d v) : StaticIs U C n d v := by
  obtain ⟨cfS, iS, kS, fS, st, cS, t1, t2, t3, t4, t5, t6, t7⟩ := S
  exact StaticIs.there (s := { Z with heap := U.heap }) ⟨cfS, iS, kS, fS, st, cS, t1, t2, t3, t4, t5, (fun q => by rw [q] at t6; cases t6), t7⟩ al rfl
/-- **length() OF SUCH A STRING** -/
theorem lenW {p : Program} {l : Launch} {e : Env} {R : Room} {s : State} {args : Array Value} {below : List Frame} {len W : Nat} {Z : State} {a0 : Array Value} {h : Heap} (hZ : Z.Warmed39 s.vm) (hw : ∀ d ∈ wordsLen, d.before a0 Z = true) {kI : Nat} (wi : (Jvm.Cond.instantiable ST kI).before a0 Z = true)
    {x t : Addr} {kb : ClassId} {cs : List Int32} {cd N2 z : Int32} {vs : List Value} (E : RoadKit.Exa Z h x ST) (V : RoadKit.Fld Z h x ST "value" "[B" (.ref t)) (C : RoadKit.Fld Z h x ST "coder" "B" (.int cd)) (K : RoadKit.Arv Z h t kb .byte N2 vs (.int 0)) (hc : CodA cs cd N2 vs) (hb : ∀ c ∈ cs, ¬ c < 0 ∧ ¬ (65535 : Int32) < c)
    (S : RoadKit.Sta Z h ST "COMPACT_STRINGS" "Z" (.int z)) (hz : ¬ z = 0) (l2 : cs.length ≤ 4000) (hfr : 2 ≤ R.frames) (hlo : W + 25 ≤ R.locals) :
    Back l R p e below s args (⟨"java/lang/String", "length", "()I"⟩ : MethodName) len W (fun P a => a = #[.ref x] ∧ P.U.heap = h ∧ P.cells + 0 ≤ R.cells ∧ P.slots + 0 ≤ R.slots)
      (fun P _ v B => ∃ L, (v = some (.int (Int32.ofNat cs.length)) ∧ L = [] ∧ B.U.heap = h) ∧ B.locs = P.locs ++ L ∧ B.cells = P.cells + 0 ∧ B.slots = P.slots + 0) := by
  obtain ⟨A, K1, K2, K3, K4, K5, K6⟩ := K
  have hcod := hc.cod (by omega) K3 K5
  intro m meth c P g ig mk a X hg hsize hdg hW hn hp'
  obtain ⟨rfl, rfl, r1, r2⟩ := hp'
  have al : Z.vm.Alike P.U.vm := hZ.alike.trans X.warmed.alike
  obtain ⟨D, fV, fC, hB, F1, F2, g1, g2, -, -⟩ := strObj wi al E V C
  have hx : Txt x t A cd cs.length (fun j => cs.getD j 0) P.U := ⟨⟨_, hB.2.2.1, D, hB.1, rfl, by cases q : D.vm <;> first | rfl | exact absurd q (hB.2.1.2 _)⟩, Has.of hB F1 g1, Has.of hB F2 g2, ⟨K1.1, State.isArrayOf_alike al K1.2.1, K1.2.2, by rcases hcod with ⟨-, q, -⟩ | ⟨-, q, -⟩ <;> omega⟩, hcod, fun j hj => by
    have e : cs.getD j 0 = cs[j] := by simp [List.getD_eq_getElem?_getD, hj]
    show ¬ cs.getD j 0 < 0 ∧ ¬ 65535 < cs.getD j 0
    rw [e]; exact hb _ (List.getElem_mem _)⟩
  obtain ⟨v, B, X', ⟨⟨hv, hh⟩, hl, hk, hs⟩, st⟩ := Len.pays x t A cd cs.length (fun j => cs.getD j 0) z (tabLen_of (movedLen hZ hw)) hfr hlo m meth c P g ig mk _ X hg hsize hdg hW hn ⟨r1, r2, rfl, hx, sta_is al S, hz⟩
  exact ⟨v, B, X', ⟨[], ⟨hv, rfl, hh⟩, hl, hk, hs⟩, st⟩
end StrChars.Road
namespace StrChars.Road
open Jvm Sem ClassFile Op Lib Jvm.Stand Jvm.Free Jvm.Free.XT
open Jvm.Lib.Cold (StaticIs)
/-- the road's facts of a String, as the laws ask it -/
theorem txt_of {Z U : State} {a0 : Array Value} {kI : Nat} (wi : (Jvm.Cond.instantiable ST kI).before a0 Z = true) (al : Z.vm.Alike U.vm) {x t : Addr} {kb : ClassId} {cs : List Int32} {cd N2 : Int32} {vs : List Value} (E : RoadKit.Exa Z U.heap x ST) (V : RoadKit.Fld Z U.heap x ST "value" "[B" (.ref t)) (C : RoadKit.Fld Z U.heap x ST "coder" "B" (.int cd)) (K : RoadKit.Arv Z U.heap t kb .byte N2 vs (.int 0)) (hc : CodA cs cd N2 vs) (hb : ∀ c ∈ cs, ¬ c < 0 ∧ ¬ (65535 : Int32) < c) (l2 : cs.length ≤ 4000) :
    ∃ A, Txt x t A cd cs.length (fun j => cs.getD j 0) U := by
  obtain ⟨A, K1, K2, K3, K4, K5, K6⟩ := K
  have hcod := hc.cod (by omega) K3 K5
  obtain ⟨D, fV, fC, hB, F1, F2, g1, g2, -, -⟩ := strObj wi al E V C
  exact ⟨A, ⟨_, hB.2.2.1, D, hB.1, rfl, by cases q : D.vm <;> first | rfl | exact absurd q (hB.2.1.2 _)⟩, Has.of hB F1 g1, Has.of hB F2 g2, ⟨K1.1, State.isArrayOf_alike al K1.2.1, K1.2.2, by rcases hcod with ⟨-, q, -⟩ | ⟨-, q, -⟩ <;> omega⟩, hcod, fun j hj => by
    have e : cs.getD j 0 = cs[j] := by simp [List.getD_eq_getElem?_getD, hj]
    show ¬ cs.getD j 0 < 0 ∧ ¬ 65535 < cs.getD j 0
    rw [e]; exact hb _ (List.getElem_mem _)⟩
end StrChars.Road
namespace StrChars
open Jvm Sem ClassFile Op Lib Jvm.Stand Jvm.Free.XT Jvm.Free.ALB Jvm.Free.JM Jvm.Free
open Jvm.Lib.Cold (StaticIs)
namespace ChN
def yN : MethodName := ⟨"java/lang/String", "charAt", "(I)C"⟩
abbrev yB : ByteArray := jdk_42_method_56_code
theorem d0 : decode yB 0 = .ok (.aload_n 0, 1) := by decide +kernel
theorem d1 : decode yB 1 = .ok (.invokevirtual 492, 3) := by decide +kernel
theorem d4 : decode yB 4 = .ok (.ifCond (.eq) 12, 3) := by decide +kernel
theorem d7 : decode yB 7 = .ok (.aload_n 0, 1) := by decide +kernel
theorem d8 : decode yB 8 = .ok (.getfield 9, 3) := by decide +kernel
theorem d11 : decode yB 11 = .ok (.iload_n 1, 1) := by decide +kernel
theorem d12 : decode yB 12 = .ok (.invokestatic 495, 3) := by decide +kernel
theorem d15 : decode yB 15 = .ok (.ireturn, 1) := by decide +kernel
def site : List Cond := [.fieldLink "java/lang/String" 9 "java/lang/String" "value" "[B", IsL.tab, LChA.tab] ++ virtW "java/lang/String" 492 "java/lang/String" IsL.yN IsL.yN ++ staticW "java/lang/String" 495 LChA.yN
def tab : Cond := tabOf yN yB 2 (some .char) site
def P (x t : Addr) (V : Cell) (n : Nat) (f : Nat → Int32) (z : Int32) (fm : Value) (i : Nat) (args : Array Value) (s : State) : Prop := args = #[.ref x, .int (Int32.ofNat i)] ∧ Txt x t V 0 n f s ∧ i < n ∧ StaticIs s "java/lang/String" "COMPACT_STRINGS" "Z" (.int z) ∧ ¬ z = 0 ∧ StaticIs s "jdk/internal/util/Preconditions" "SIOOBE_FORMATTER" "Ljava/util/function/BiFunction;" fm ∧ fm.isRef = true
def E (f : Nat → Int32) (i : Nat) (r : Option Value) (s u : State) : Prop := XT.PureE (some (.int (f i))) r s u
/-- charAt(i) of a Latin-1 String of n chars, i < n: f i -/
theorem law (l : Launch) (x t : Addr) (V : Cell) (n : Nat) (f : Nat → Int32) (z : Int32) (fm : Value) (i : Nat) : Law l yN 2 1 3 40 yB 2 (some .char) site (P x t V n f z fm i) (E f i) [] 0 0 := by
  refine Law.of_walk (plainFor_of_name (by decide +kernel)) (by decide +kernel) (by decide +kernel) (by decide) (fun _ _ h => by rw [h.1]; rfl) (fun _ U U' hal hh h => ⟨h.1, h.2.1.mv hal hh, h.2.2.1, h.2.2.2.1.there hal hh, h.2.2.2.2.1, h.2.2.2.2.2.1.there hal hh, h.2.2.2.2.2.2⟩) (fun r U U' V V' h1 hal h2 h => XT.PureE.mv r U U' V V' h1 hal h2 h) ?_
  intro p e s m args below meth c s₁ X0 hexec hbytes hml hret hlk hnm hown hh0 W hP
  obtain ⟨rfl, hx, hi, s1, hz, s3, rf⟩ := hP
  have v31 := hx.2.2.2.1.2.2.2
  have hr := hx.2.2.2.2.2 i hi
  have hx0 := hx.mv X0.warmed.alike hh0
  have c1 : Steps p.tables e below (s₁.setTop (entryFrame m #[.ref x, .int (Int32.ofNat i)] 2)) (s₁.setTop (mkF m 1 #[.val (.ref x), .val (.int (Int32.ofNat i))] [.ref x])) := Steps.trans (entry rfl) (by
    show Steps p.tables e below (s₁.setTop (mkF m 0 #[.val (.ref x), .val (.int (Int32.ofNat i))] [])) _
    refine XS.aloadN X0.here hexec rfl (hb hbytes d0) rfl rfl ?_
    exact Steps.refl _)
  obtain ⟨v2, T2, X2, E2, g2⟩ := X0.callV hexec (IsL.law l x 0 z) hown (wks W (virtW "java/lang/String" 492 "java/lang/String" IsL.yN IsL.yN)) rfl (by decide) (wk W IsL.tab) (W := 0) (Nat.le_of_ble_eq_true rfl) (Nat.le_of_ble_eq_true rfl) (Nat.le_refl _) (Nat.le_refl _) (hx0.1.fc X0.warmed.alike) hx0.1.is (g := (mkF m 1 #[.val (.ref x), .val (.int (Int32.ofNat i))] [.ref x])) rfl (by rw [hml]; rfl) c1 (argsL := []) (rest := []) rfl rfl (by show 2 * 0 + 0 ≤ _; decide) (hb hbytes d1) (⟨rfl, hx0.2.2.1, hx.2.2.2.2.1.cd, s1.there X0.warmed.alike hh0, hz⟩)
  obtain ⟨rfl, q2⟩ := E2
  have hh2 := q2.trans hh0
  have hx2 := hx.mv X2.warmed.alike hh2
  obtain ⟨-, k1, k2⟩ | ⟨k0, -⟩ := hx.2.2.2.2.1
  · have c3 : Steps p.tables e below (s₁.setTop (entryFrame m #[.ref x, .int (Int32.ofNat i)] 2)) (T2.setTop (mkF m 8 #[.val (.ref x), .val (.int (Int32.ofNat i))] [.ref x])) := Steps.trans g2 (by
      refine XS.ifNo X2.here hexec rfl (hb hbytes d4) rfl (i0_eq_f (by decide)) ?_
      refine XS.aloadN X2.here hexec rfl (hb hbytes d7) rfl rfl ?_
      exact Steps.refl _)
    obtain ⟨T4, X4, q4, st4⟩ := X2.hget hexec hown (wk W (.fieldLink "java/lang/String" 9 "java/lang/String" "value" "[B")) hx2.2.1 (g := (mkF m 8 #[.val (.ref x), .val (.int (Int32.ofNat i))] [.ref x])) rfl (rest := []) rfl (hb hbytes d8)
    have hh4 := q4.trans hh2
    have c5 : Steps p.tables e below (s₁.setTop (entryFrame m #[.ref x, .int (Int32.ofNat i)] 2)) (T4.setTop (mkF m 12 #[.val (.ref x), .val (.int (Int32.ofNat i))] [.int (Int32.ofNat i), .ref t])) := (c3.trans (st4 _ (Steps.refl _))).trans (by
      refine XS.iloadN X4.here hexec rfl (hb hbytes d11) rfl ?_
      exact Steps.refl _)
    obtain ⟨v6, T6, X6, E6, g6⟩ := X4.callS hexec (LChA.law l t V i (lo8 (f i)) fm) hown (wks W (staticW "java/lang/String" 495 LChA.yN)) (wk W LChA.tab) (W := 0) (Nat.le_of_ble_eq_true rfl) (Nat.le_of_ble_eq_true rfl) (Nat.le_refl _) (Nat.le_refl _) (g := (mkF m 12 #[.val (.ref x), .val (.int (Int32.ofNat i))] [.int (Int32.ofNat i), .ref t])) rfl (by rw [hml]; rfl) c5 (argsL := [.ref t, .int (Int32.ofNat i)]) (rest := []) rfl rfl (by show 2 * 0 + 0 ≤ _; decide) (hb hbytes d12) (⟨rfl, hx.2.2.2.1.mv X4.warmed.alike hh4, (k2 i hi).1, s3.there X4.warmed.alike hh4, rf⟩)
    obtain ⟨rfl, q6⟩ := E6
    rw [chr8_lo8 hr.1 (k2 i hi).2] at g6
    exact ⟨T6, some (.int (f i)), _, _, _, X6, rfl, rfl, rfl, (fun h => by cases h), ⟨rfl, q6.trans hh4⟩, fun fs hl => Steps.trans g6 (X6.ireturnOut hexec hret (narrow_ch hr.1 hr.2) (Or.inr (Or.inr (Or.inr (Or.inl rfl)))) (hb hbytes d15) hl)⟩
  · exact absurd k0 (by decide)
theorem pays {l : Launch} {R : Room} {p : Program} {e : Env} {below : List Frame} {s : State} {sargs : Array Value} {len W : Nat} (x t : Addr) (V : Cell) (n : Nat) (f : Nat → Int32) (z : Int32) (fm : Value) (i : Nat) (htab : tab.before sargs s = true) (hfr : 4 ≤ R.frames) (hlo : W + 53 ≤ R.locals) :
    Back l R p e below s sargs yN len W (fun A₁ a₁ => A₁.cells + 0 ≤ R.cells ∧ A₁.slots + 0 ≤ R.slots ∧ P x t V n f z fm i a₁ A₁.U) (fun A₁ _ v₁ B₁ => E f i v₁ A₁.U B₁.U ∧ B₁.locs = A₁.locs ++ [] ∧ B₁.cells = A₁.cells + 0 ∧ B₁.slots = A₁.slots + 0) :=
  (law l x t V n f z fm i).pays htab hfr (by omega)
end ChN
end StrChars
namespace StrChars.Road
open Jvm Sem ClassFile Op Lib Jvm.Stand Jvm.Free Jvm.Free.XT
open Jvm.Lib.Cold (StaticIs)
/-- the words of String.charAt(int), the Latin-1 road alone -/
abbrev wordsChN : List Jvm.Cond := [.code ChN.yN ChN.yB 2 (some .char), .initialized ST, .fieldLink ST 9 ST "value" "[B", .fieldLink ST 38 ST "COMPACT_STRINGS" "Z", .fieldLink ST 15 ST "coder" "B", .code IsL.yN IsL.yB 1 (some .boolean), .methodLink ST 492 IsL.yN, .declares IsL.yN, .selects ST IsL.yN IsL.yN, .instanceMethod IsL.yN,
  .methodLink ST 495 LChA.yN, .static LChA.yN, .code LChA.yN LChA.yB 2 (some .char), .initialized "java/lang/StringLatin1", .methodLink "java/lang/StringLatin1" 9 JO.Str_checkIndex.yN, .static JO.Str_checkIndex.yN, .code JO.Str_checkIndex.yN JO.Str_checkIndex.yB 2 none,
  .fieldLink ST 1053 "jdk/internal/util/Preconditions" "SIOOBE_FORMATTER" "Ljava/util/function/BiFunction;", .methodLink ST 1059 JC.PreCheck.yN, .static JC.PreCheck.yN, .code JC.PreCheck.yN JC.PreCheck.yB 3 (some .int), .initialized "jdk/internal/util/Preconditions"]
theorem tabChN_of {a : Array Value} {s : State} (h : ∀ w ∈ wordsChN, w.before a s = true) : ChN.tab.before a s = true := by
  have hp : JC.PreCheck.tab.before a s = true := unparts (wk h (.code JC.PreCheck.yN JC.PreCheck.yB 3 (some .int))) (wks h (.initialized JC.PreCheck.yN.cls :: JC.PreCheck.site))
  have qk := consq hp h
  have hk : JO.Str_checkIndex.tab.before a s = true := unparts (wk qk (.code JO.Str_checkIndex.yN JO.Str_checkIndex.yB 2 none)) (wks qk (.initialized JO.Str_checkIndex.yN.cls :: JO.Str_checkIndex.site))
  have ql := consq hk h
  have hl : LChA.tab.before a s = true := unparts (wk ql (.code LChA.yN LChA.yB 2 (some .char))) (wks ql (.initialized LChA.yN.cls :: LChA.site))
  have hi : IsL.tab.before a s = true := unparts (wk h (.code IsL.yN IsL.yB 1 (some .boolean))) (wks h (.initialized IsL.yN.cls :: IsL.site))
  have q := consq hi (consq hl h)
  exact unparts (wk q (.code ChN.yN ChN.yB 2 (some .char))) (wks q (.initialized ChN.yN.cls :: ChN.site))
theorem movedChN {Z s : State} {a0 args : Array Value} (hZ : Z.Warmed39 s.vm) (hw : ∀ d ∈ wordsChN, d.before a0 Z = true) : ∀ d ∈ wordsChN, d.before args s = true := fun d hd => by
  have t : ∀ d ∈ wordsChN, (d.onTables && d.keepsFace) = true := by decide +kernel
  exact RoadKit.mv hZ (hw d hd) (t d hd)
/-- **charAt(i) OF A LATIN-1 STRING**, i < n: the char -/
theorem chN {p : Program} {l : Launch} {e : Env} {R : Room} {s : State} {args : Array Value} {below : List Frame} {len W : Nat} {Z : State} {a0 : Array Value} {h : Heap} (hZ : Z.Warmed39 s.vm) (hw : ∀ d ∈ wordsChN, d.before a0 Z = true) {kI : Nat} (wi : (Jvm.Cond.instantiable ST kI).before a0 Z = true)
    {x t : Addr} {kb : ClassId} {cs : List Int32} {N2 z : Int32} {vs : List Value} {fm : Value} {i : Nat} {j : Int32} (E : RoadKit.Exa Z h x ST) (V : RoadKit.Fld Z h x ST "value" "[B" (.ref t)) (C : RoadKit.Fld Z h x ST "coder" "B" (.int 0)) (K : RoadKit.Arv Z h t kb .byte N2 vs (.int 0)) (hc : CodA cs 0 N2 vs) (hb : ∀ c ∈ cs, ¬ c < 0 ∧ ¬ (65535 : Int32) < c)
    (S : RoadKit.Sta Z h ST "COMPACT_STRINGS" "Z" (.int z)) (hz : ¬ z = 0) (F : RoadKit.Sta Z h "jdk/internal/util/Preconditions" "SIOOBE_FORMATTER" "Ljava/util/function/BiFunction;" fm) (rf : fm.isRef = true) (l2 : cs.length ≤ 4000) (hi : i < cs.length) (hj : j = Int32.ofNat i) (hfr : 4 ≤ R.frames) (hlo : W + 53 ≤ R.locals) :
    Back l R p e below s args (⟨"java/lang/String", "charAt", "(I)C"⟩ : MethodName) len W (fun P a => a = #[.ref x, .int j] ∧ P.U.heap = h ∧ P.cells + 0 ≤ R.cells ∧ P.slots + 0 ≤ R.slots)
      (fun P _ v B => ∃ L, (v = some (.int (cs.getD i 0)) ∧ L = [] ∧ B.U.heap = h) ∧ B.locs = P.locs ++ L ∧ B.cells = P.cells + 0 ∧ B.slots = P.slots + 0) := by
  subst hj
  intro m meth c P g ig mk a X hg hsize hdg hW hn hp'
  obtain ⟨rfl, rfl, r1, r2⟩ := hp'
  have al : Z.vm.Alike P.U.vm := hZ.alike.trans X.warmed.alike
  obtain ⟨A, hx⟩ := txt_of wi al E V C K hc hb l2
  obtain ⟨v, B, X', ⟨⟨hv, hh⟩, hl, hk, hs⟩, st⟩ := ChN.pays x t A cs.length (fun j => cs.getD j 0) z fm i (tabChN_of (movedChN hZ hw)) hfr hlo m meth c P g ig mk _ X hg hsize hdg hW hn ⟨r1, r2, rfl, hx, hi, sta_is al S, hz, sta_is al F, rf⟩
  exact ⟨v, B, X', ⟨[], ⟨hv, rfl, hh⟩, hl, hk, hs⟩, st⟩
/-- what backV says of its String, as the contracts of this text ask it: cs's low bytes, coder 0 -/
theorem codOf {cs : List Int32} {n : Nat} (hn : cs.length = n) (hb : ∀ c ∈ cs, ¬ 255 < c) : CodA cs 0 (Int32.ofNat n) ((cs.map lo8).map Value.int) := Or.inl ⟨rfl, by rw [hn], by simp [List.map_map, Function.comp_def], hb⟩
end StrChars.Road
end Jvm.Pilot.@@N@@
namespace Jvm.Pilot.@@N@@
open Jvm Jvm.ClassFile Sem Op Lib Jvm.Free Jvm.Stand Jvm.LawKit Jvm.RoadKit Bundle Jvm.Pilot.@@N@@.Jvm.D
abbrev vr (a : Addr) : Slot := .val (.ref a)
abbrev vi (z : Int32) : Slot := .val (.int z)
abbrev SS (p : Program) (e : Env) (b : List Frame) (S T : State) : Prop := Steps p.tables e b S T
theorem ww {Z : State} {a0 : Array Value} (hw : ∀ d ∈ tables_1, d.before a0 Z = true) (i : Nat) {d : Jvm.Cond} (h : tables_1[i]? = some d) : d.before a0 Z = true := hw d (List.mem_of_getElem? h)
theorem own_nb {v : Int32} (h : v = 0 ∨ v = 1) : narrow .boolean (.int v) = .int v := by rcases h with rfl | rfl <;> rfl
theorem own_i2c {x : Int32} (h0 : ¬ x < 0) (h1 : ¬ 65535 < x) : x.toUInt32.toUInt16.toUInt32.toInt32 = x := by
  have e0 : (0 : Int32).toInt = 0 := rfl
  have e1 : (65535 : Int32).toInt = 65535 := rfl
  rw [Int32.lt_iff_toInt_lt, e0] at h0
  rw [Int32.lt_iff_toInt_lt, e1] at h1
  apply Int32.toBitVec_inj.mp
  apply BitVec.eq_of_toNat_eq
  have e : x.toUInt32.toUInt16.toUInt32.toInt32.toBitVec.toNat = x.toUInt32.toUInt16.toUInt32.toNat := rfl
  rw [e, UInt16.toNat_toUInt32, UInt32.toNat_toUInt16]
  show x.toBitVec.toNat % 2 ^ 16 = _
  have q : x.toInt = x.toBitVec.toInt := rfl
  rw [q, BitVec.toInt_eq_toNat_cond] at h0 h1
  have := x.toBitVec.isLt
  split at h0 <;> omega
theorem own_and255 (x : Int32) : ¬ (x &&& 255) < 0 ∧ ¬ 255 < (x &&& 255) := by
  have h : (x &&& 255).toBitVec.toNat < 256 := by
    simp only [Int32.toBitVec_and, BitVec.toNat_and]
    exact Nat.lt_succ_of_le Nat.and_le_right
  have e0 : (0 : Int32).toInt = 0 := rfl
  have e1 : (255 : Int32).toInt = 255 := rfl
  rw [Int32.lt_iff_toInt_lt, Int32.lt_iff_toInt_lt, e0, e1]
  have q : (x &&& 255).toInt = (x &&& 255).toBitVec.toInt := rfl
  rw [q, BitVec.toInt_eq_toNat_cond]
  split <;> omega
/-- a char below 256 -/
def C8 (x : Int32) : Prop := ¬ x < 0 ∧ ¬ (255 : Int32) < x
theorem own_up1 {x : Int32} (h : C8 x) : ¬ x < 0 ∧ ¬ (65535 : Int32) < x := ⟨h.1, fun q => h.2 (by rw [Int32.lt_iff_toInt_lt] at q ⊢; have e1 : (65535 : Int32).toInt = 65535 := rfl; have e2 : (255 : Int32).toInt = 255 := rfl; omega)⟩
theorem own_nar {x : Int32} (h : C8 x) : nar .char x = x := own_i2c (own_up1 h).1 (own_up1 h).2
theorem own_c8m (x : Int32) : C8 ((x &&& 255).toUInt32.toUInt16.toUInt32.toInt32) := by rw [i2c_mask]; exact own_and255 x
theorem own_c8n {x : Int32} (h : C8 x) : C8 (nar .char x) := by rw [own_nar h]; exact h
theorem own_nc {v : Int32} (h : ¬ v < 0 ∧ ¬ 65535 < v) : narrow .char (.int v) = .int v := by
  show Value.int (v.toUInt32.toUInt16.toUInt32.toInt32) = .int v
  rw [own_i2c h.1 h.2]
theorem own_nref {t : FieldType} {w : Value} (h : w.isRef = true) : narrow t w = w := by rcases ref_cases h with rfl | ⟨a, rfl⟩ <;> cases t <;> rfl
theorem own_al0 {P : Int32 → Prop} : ∀ c ∈ ([] : List Int32), P c := fun _ h => nomatch h
theorem own_alS {P : Int32 → Prop} {a : Int32} {L : List Int32} (h : P a) (r : ∀ c ∈ L, P c) : ∀ c ∈ a :: L, P c := List.forall_mem_cons.mpr ⟨h, r⟩
theorem own_up (cs : List Int32) (h : ∀ c ∈ cs, ¬ c < 0 ∧ ¬ (255 : Int32) < c) : ∀ c ∈ cs, ¬ c < 0 ∧ ¬ (65535 : Int32) < c := fun c hc => own_up1 (h c hc)
/-- a flag r says P -/
abbrev TF (r : Int32) (P : Prop) : Prop := (r = 1 ∧ P) ∨ (r = 0 ∧ ¬ P)
theorem own_y {r : Int32} {P : Prop} (h : TF r P) (q : ¬ r = 0) : P := h.elim (fun z => z.2) (fun z => absurd z.1 q)
theorem own_n {r : Int32} {P : Prop} (h : TF r P) (q : r = 0) : ¬ P := h.elim (fun z => absurd (z.1.symm.trans q) (by decide)) (fun z => z.2)
theorem own_b {r : Int32} {P : Prop} (h : TF r P) : r = 0 ∨ r = 1 := h.elim (fun z => Or.inr z.1) (fun z => Or.inl z.1)
theorem own_is1 {r : Int32} {P : Prop} (h : TF r P) (q : P) : r = 1 := h.elim (fun z => z.1) (fun z => absurd q z.2)
theorem own_is0 {r : Int32} {P : Prop} (h : TF r P) (q : ¬ P) : r = 0 := h.elim (fun z => absurd z.2 q) (fun z => z.1)
theorem own_ofN {a : Nat} (h : a < 2147483648) : (Int32.ofNat a).toInt = a := Int32.toInt_ofNat_small h
theorem own_ofN_lt {a b : Nat} (ha : a < 2147483648) (hb : b < 2147483648) : Int32.ofNat a < Int32.ofNat b ↔ a < b := by
  rw [Int32.lt_iff_toInt_lt, own_ofN ha, own_ofN hb]; omega
theorem own_ofN_inj {a b : Nat} (ha : a < 2147483648) (hb : b < 2147483648) : Int32.ofNat a = Int32.ofNat b ↔ a = b := by
  rw [← Int32.toInt_inj, own_ofN ha, own_ofN hb]; omega
theorem own_mask31 (x : Int32) : ∃ a : Nat, a < 2147483648 ∧ x &&& 2147483647 = Int32.ofNat a := by
  have h : (x &&& 2147483647).toBitVec.toNat < 2147483648 := by
    simp only [Int32.toBitVec_and, BitVec.toNat_and]
    exact Nat.lt_succ_of_le Nat.and_le_right
  refine ⟨_, h, ?_⟩
  apply Int32.toBitVec_inj.mp
  show _ = BitVec.ofNat 32 _
  rw [BitVec.ofNat_toNat]; simp
theorem own_rem31 (x : Int32) {m : Nat} (h0 : 0 < m) (h1 : m < 2147483648) : ∃ a : Nat, a < m ∧ (x &&& 2147483647) % Int32.ofNat m = Int32.ofNat a := by
  obtain ⟨a, ha, e⟩ := own_mask31 x
  refine ⟨a % m, Nat.mod_lt _ h0, ?_⟩
  rw [e]
  apply Int32.toInt_inj.mp
  have q : a % m ≤ a := Nat.mod_le _ _
  rw [Int32.toInt_mod, own_ofN ha, own_ofN h1, own_ofN (by omega)]
  exact (Int.ofNat_tmod a m).symm
theorem own_b8 (x : Int32) : (x.toInt8.toInt32).toInt8.toInt32 = x.toInt8.toInt32 := by simp
/-- a Latin-1 String x of the chars cs, its bytes at t -/
def OStr (Z : State) (h : Heap) (x t : Addr) (kb : ClassId) (cs : List Int32) : Prop :=
  Exa Z h x "java/lang/String" ∧ Fld Z h x "java/lang/String" "value" "[B" (.ref t) ∧ Fld Z h x "java/lang/String" "coder" "B" (.int 0) ∧ Arv Z h t kb .byte (Int32.ofNat cs.length) ((cs.map (fun c => c.toInt8.toInt32)).map Value.int) (.int 0) ∧ (∀ c ∈ cs, ¬ c < 0 ∧ ¬ (255 : Int32) < c) ∧ cs.length ≤ 4000
theorem OStr.cod {Z : State} {h : Heap} {x t : Addr} {kb : ClassId} {cs : List Int32} (S : OStr Z h x t kb cs) : StrChars.Road.CodA cs 0 (Int32.ofNat cs.length) ((cs.map (fun c => c.toInt8.toInt32)).map Value.int) := StrChars.Road.codOf rfl (fun c hc => (S.2.2.2.2.1 c hc).2)
theorem own_tfv {v : Option Value} {P : Prop} (h : (v = some (.int 1) ∧ P) ∨ (v = some (.int 0) ∧ ¬ P)) : ∃ r : Int32, v = some (.int r) ∧ TF r P := h.elim (fun z => ⟨1, z.1, Or.inl ⟨rfl, z.2⟩⟩) (fun z => ⟨0, z.1, Or.inr ⟨rfl, z.2⟩⟩)
theorem own_tfeq {r v : Int32} {P : Prop} (h1 : TF r P) (h2 : TF v P) : r = v := h1.elim (fun z => z.1.trans (own_is1 h2 z.2).symm) (fun z => z.1.trans (own_is0 h2 z.2).symm)
theorem own_tfiff {r : Int32} {P Q : Prop} (h : TF r P) (i : P ↔ Q) : TF r Q := h.imp (fun z => ⟨z.1, i.mp z.2⟩) (fun z => ⟨z.1, fun q => z.2 (i.mpr q)⟩)
theorem own_ushr (x : Int32) {k : Nat} (hk : 0 < k ∧ k < 32) : ∃ a : Nat, a < 2147483648 ∧ (x.toUInt32 >>> (Int32.ofNat k &&& 31).toUInt32).toInt32 = Int32.ofNat a := by
  obtain ⟨h0, h1⟩ := hk
  refine ⟨x.toUInt32.toNat >>> k, ?_, ?_⟩
  · have := x.toUInt32.toNat_lt
    rw [Nat.shiftRight_eq_div_pow]
    have : 2 ^ 1 ≤ 2 ^ k := Nat.pow_le_pow_right (by decide) h0
    apply Nat.div_lt_of_lt_mul
    omega
  · have e : (Int32.ofNat k &&& 31).toUInt32 = UInt32.ofNat k := by
      have : k < 32 := h1
      have q : ∀ j : Fin 32, (Int32.ofNat j.val &&& 31).toUInt32 = UInt32.ofNat j.val := by decide
      exact q ⟨k, h1⟩
    rw [e]
    apply Int32.toBitVec_inj.mp
    apply BitVec.eq_of_toNat_eq
    show (x.toUInt32 >>> UInt32.ofNat k).toNat = (BitVec.ofNat 32 _).toNat
    rw [UInt32.toNat_shiftRight, BitVec.toNat_ofNat]
    have hlt : x.toUInt32.toNat >>> k < 2 ^ 32 := Nat.lt_of_le_of_lt (Nat.shiftRight_le _ _) x.toUInt32.toNat_lt
    rw [Nat.mod_eq_of_lt hlt]
    congr 1
    simp
    omega
theorem own_tfe {v : Option Value} {n : Nat} (h : v = some (.int (if n = 0 then 1 else 0))) : ∃ r : Int32, v = some (.int r) ∧ TF r (n = 0) := by
  by_cases q : n = 0
  · exact ⟨1, by rw [h, if_pos q], Or.inl ⟨rfl, q⟩⟩
  · exact ⟨0, by rw [h, if_neg q], Or.inr ⟨rfl, q⟩⟩
theorem own_m4 (x : Int32) : x &&& 3 = 0 ∨ x &&& 3 = 1 ∨ x &&& 3 = 2 ∨ x &&& 3 = 3 := by
  have h : (x &&& 3).toBitVec.toNat < 4 := by
    simp only [Int32.toBitVec_and, BitVec.toNat_and]
    exact Nat.lt_succ_of_le Nat.and_le_right
  have e : ∀ k : Nat, (x &&& 3).toBitVec.toNat = k → x &&& 3 = Int32.ofNat k := fun k hk => by
    apply Int32.toBitVec_inj.mp
    show _ = BitVec.ofNat 32 _
    rw [← hk, BitVec.ofNat_toNat]; simp
  have q : (x &&& 3).toBitVec.toNat = 0 ∨ (x &&& 3).toBitVec.toNat = 1 ∨ (x &&& 3).toBitVec.toNat = 2 ∨ (x &&& 3).toBitVec.toNat = 3 := by omega
  rcases q with q | q | q | q
  · exact Or.inl (e 0 q)
  · exact Or.inr (Or.inl (e 1 q))
  · exact Or.inr (Or.inr (Or.inl (e 2 q)))
  · exact Or.inr (Or.inr (Or.inr (e 3 q)))
theorem own_m3 (x : Int32) : (x &&& 3) % 3 = 0 ∨ (x &&& 3) % 3 = 1 ∨ (x &&& 3) % 3 = 2 := by
  rcases own_m4 x with q | q | q | q <;> rw [q] <;> decide
theorem own_idx {a m : Nat} (h : a < m) (hm : m < 2147483648) : ¬ Int32.ofNat a < 0 ∧ Int32.ofNat a < Int32.ofNat m := by
  have e0 : (0 : Int32).toInt = 0 := rfl
  rw [Int32.lt_iff_toInt_lt, Int32.lt_iff_toInt_lt, e0, own_ofN (by omega), own_ofN hm]; omega
theorem own_in_words : ∀ d ∈ StrChars.Road.words, d ∈ tables_1 := by decide +kernel
theorem own_in_wordsLen : ∀ d ∈ StrChars.Road.wordsLen, d ∈ tables_1 := by decide +kernel
theorem own_in_wordsChN : ∀ d ∈ StrChars.Road.wordsChN, d ∈ tables_1 := by decide +kernel
theorem own_fld {s : State} {args : Array Value} {t : Term} {x : Addr} {C n d : String} {k : Int32} (ev : t.eval args s none [] s = some (.ref x)) (h : (Cond.eq (.field t C n d) (.int k)).value args s none s [] = some true) : Fld s s.heap x C n d (.int k) := by
  apply Fld.start
  have e2 := fld_at (C := C) (n := n) (dd := d) ev
  cases q : s.fieldOf? x C n d with
  | none => rw [q] at e2; simp only [Cond.value, e2] at h; cases h
  | some v =>
    rw [q] at e2
    simp only [Cond.value, e2, Term.int_eval] at h
    cases v <;> simp at h
    rw [h]
theorem own_fldR {s : State} {args : Array Value} {t : Term} {x y : Addr} {C n d : String} (ev : t.eval args s none [] s = some (.ref x)) (h : (Term.field t C n d).eval args s none [] s = some (.ref y)) : Fld s s.heap x C n d (.ref y) := Fld.start ((fld_at (C := C) (n := n) (dd := d) ev).symm.trans h)
theorem own_len {s : State} {args : Array Value} {t : Term} {x : Addr} {cl : Cell} {ty : FieldType} {k : Int32} (ev : t.eval args s none [] s = some (.ref x)) (A : Arr s s.heap x cl ty) (h : (Cond.eq (.length t) (.int k)).value args s none s [] = some true) : cl.slots.size < 2 ^ 31 ∧ cl.slots.size.toInt32 = k := by
  obtain ⟨v, w, e1, e2, -⟩ := cmp_v (Or.inl h)
  obtain ⟨a, cell, e3, e4, e5⟩ := Term.length_spec e1
  cases ev.symm.trans e3
  cases A.1.symm.trans (State.arrayAt?_spec e4).1
  subst e5
  refine ⟨?_, ?_⟩
  · by_cases q : cl.slots.size < 2 ^ 31
    · exact q
    · exfalso; simp [Term.eval, ev, e4, q] at e1
  · simp only [Cond.value, e1, Term.int_eval] at h
    simpa using h
theorem own_elemR {s : State} {args : Array Value} {t t2 : Term} {x u : Addr} {cl : Cell} {ty : FieldType} {j : Int32} (ev : t.eval args s none [] s = some (.ref x)) (A : Arr s s.heap x cl ty) (h : (Cond.eq (.elem t (.int j)) t2).value args s none s [] = some true) (ev2 : t2.eval args s none [] s = some (.ref u)) : cl.slots[j.toNatClampNeg]? = some (.ref u) := by
  obtain ⟨v, w, e1, e2, -⟩ := cmp_v (Or.inl h)
  obtain ⟨b1, b2⟩ := elem_in e1 ev (Term.int_eval _) A.1
  rw [b2]
  simp only [Cond.value, e1, ev2] at h
  cases v <;> simp at h
  rw [h]
def QInt (Z : State) (r : Int32) (h0 : Heap) (n0 : Nat) (v : Option Value) (h : Heap) (L : List Loc) : Prop := v = some (.int r) ∧ Fr n0 L ∧ h = h0

def QVals (Z : State) (u0 u1 u2 : Addr) (h0 : Heap) (n0 : Nat) (v : Option Value) (h : Heap) (L : List Loc) : Prop := ∃ (t : Addr) (kb : ClassId), v = some (.ref t) ∧ Fr n0 L ∧ Keep h0 h [] ∧ h0.size ≤ t ∧ Arv Z h t kb (.object "com/example/pricefold/pricefold/model/Identifier") (3 : Int32) [.ref u0, .ref u1, .ref u2] .null

theorem D0_0 : decode prog_48_method_1_code 0 = .ok (.getstatic 13, 3) := by decide +kernel
theorem D0_3 : decode prog_48_method_1_code 3 = .ok (.invokevirtual 17, 3) := by decide +kernel
theorem D0_6 : decode prog_48_method_1_code 6 = .ok (.checkcast 18, 3) := by decide +kernel
theorem D0_9 : decode prog_48_method_1_code 9 = .ok (.areturn, 1) := by decide +kernel
theorem pn_com_example_pricefold_pricefold_model_Identifier : plainName "com/example/pricefold/pricefold/model/Identifier" = true := by first | (simp [plainName, overriddenIn]; done) | decide +kernel
theorem ef_rmVals (m : MethodId)  : entryFrame m #[] 0 = mkF m 0 #[] [] := by first | (simp [entryFrame, mkF, argsToLocals, Value.category]; done) | rfl
set_option maxRecDepth 65536 in
set_option maxHeartbeats 40000000 in
theorem rmVals (l : Launch) (Z : State) (a0 : Array Value) (hw : ∀ d ∈ tables_1, d.before a0 Z = true) (ws : List Jvm.Cond) (u0 u1 u2 aV : Addr) (kV : ClassId) (h0 : Heap) (n0 : Nat) (Z0 : n0 ≤ h0.size) (sV : Sta Z Z.heap "com/example/pricefold/pricefold/model/Identifier" "$VALUES" "[Lcom/example/pricefold/pricefold/model/Identifier;" (.ref aV)) (VV : Arv Z Z.heap aV kV (.object "com/example/pricefold/pricefold/model/Identifier") (3 : Int32) [.ref u0, .ref u1, .ref u2] .null) (EV : Exa Z Z.heap aV "[Lcom/example/pricefold/pricefold/model/Identifier;") (hF : Fit Z) (X00 : Old Z n0 h0) :
    MetFree l (⟨"com/example/pricefold/pricefold/model/Identifier", "values", "()[Lcom/example/pricefold/pricefold/model/Identifier;"⟩ : MethodName) (head1 (Jvm.Cond.code (⟨"com/example/pricefold/pricefold/model/Identifier", "values", "()[Lcom/example/pricefold/pricefold/model/Identifier;"⟩ : MethodName) prog_48_method_1_code 0 (some (.array (.object "com/example/pricefold/pricefold/model/Identifier"))) :: ws) ({ frames := 1, cells := 1, slots := 3, locals := 14 } : Room)) (fun aa U => aa = #[] ∧ Z.Warmed39 U.vm ∧ U.heap = h0) (fun _ _ _ _ _ => True) (fun _ U o U' => ∃ v L, o = .returned v ∧ QVals Z u0 u1 u2 h0 n0 v U'.heap L ∧ FrameEnd U o U' L ({ frames := 1, cells := 1, slots := 3, locals := 14 } : Room).cells ({ frames := 1, cells := 1, slots := 3, locals := 14 } : Room).slots) := by
  refine MetFree.of_bodySF (plainFor_of_name pn_com_example_pricefold_pricefold_model_Identifier) hisR ?_
  intro p e s m args below meth c s₁ Bd hml0 hP hK
  obtain ⟨rfl, hZ, hh⟩ := hP
  have hx := Bd.exec
  have hby := Bd.bytes
  have hml : c.maxLocals = 0 := hml0
  have hown : s.vm.findClass "com/example/pricefold/pricefold/model/Identifier" = some m.cls := findClass_of_methodNamed Bd.named
  have hnm := (name_of_methodNamed Bd.named Bd.method).1
  have X0 : Stand p l e ({ frames := 1, cells := 1, slots := 3, locals := 14 } : Room) s m #[] below meth c s₁ [] 0 0 := Stand.of_body Bd
  have e0 : s₁.heap = h0 := by rw [← hh, Bd.state]; rfl
  have N0 := Fr.nil n0
  have K0 := Keep.refl h0 []
  obtain ⟨S0, hS0⟩ : ∃ z, z = s₁.setTop (entryFrame m #[] 0) := ⟨_, rfl⟩
  rw [← hS0]
  have c0 : SS p e below S0 (s₁.setTop (mkF m 0 #[] [])) := by
    rw [hS0]; exact castTop (ef_rmVals m ) (Steps.refl _)
  obtain ⟨T1, X1, e1, st1⟩ := getS2 X0 hx hZ hown (host := "") (Or.inl (ww hw 40 rfl)) Via.refl e0 (sV.ext X00.2) (g := (mkF m 0 #[] [])) rfl (hb hby D0_0)
  have c2 : SS p e below S0 (T1.setTop (mkF m 3 #[] [(.ref aV)])) := c0.trans (st1 _ (Steps.refl _))
  obtain ⟨clV, ArV, qV, SV, nV, HV, GV⟩ := id VV
  have FV := FitC.start hF ArV
  obtain ⟨T3, h3, X3, e3, E3, A3, Ex3, st3⟩ := cloneA X1 hx hZ hown (ww hw 42 rfl) (ww hw 43 rfl) (ww hw 47 rfl) (ww hw 45 rfl) (ww hw 46 rfl) (ww hw 48 rfl) e1 (ArV.ext X00.2) (EV.ext X00.2) FV (g := (mkF m 3 #[] [(.ref aV)])) rfl (by rw [hml]; rfl) (rest := []) rfl (hb hby D0_3) (by decide) (W := 0) (cap := 3) (by show 2 * 0 + _ ≤ _; exact Nat.le_of_eq rfl) (by decide) (by rw [SV]; decide) (by decide) (by decide)
  obtain ⟨b3, g3⟩ : ∃ z, z = h0.size := ⟨_, rfl⟩
  rw [← g3] at A3 Ex3 st3
  have c4 : SS p e below S0 (T3.setTop (mkF m 6 #[] [(.ref b3)])) := c2.trans (st3 _ (Steps.refl _))
  have z3 : n0 ≤ h3.size := Nat.le_trans Z0 E3.1
  have K3 := K0.ext E3
  have V3 : Arv Z h3 b3 kV (.object "com/example/pricefold/pricefold/model/Identifier") (3 : Int32) [.ref u0, .ref u1, .ref u2] .null := ⟨_, A3, qV, SV, nV, HV, GV⟩
  have lt_b3 := V3.lt
  obtain ⟨T5, X5, e5, st5⟩ := castY X3 hx hZ hown (ww hw 52 rfl) e3 (Ins.self Ex3) (g := (mkF m 6 #[] [(.ref b3)])) rfl rfl (hb hby D0_6)
  have c6 : SS p e below S0 (T5.setTop (mkF m 9 #[] [(.ref b3)])) := c4.trans (st5 _ (Steps.refl _))
  obtain ⟨fs, hr, hrun, hended, hW, hsame⟩ := X5.leave (v := some (.ref b3)) (fun h => by rw [Bd.returns] at h; cases h)
  refine ⟨_, _, c6.trans (retOut X5 hx Bd.returns rfl (Or.inr (Or.inr (Or.inr (Or.inr ⟨rfl, rfl, rfl⟩)))) (hb hby D0_9) hr), hrun, hended, _, _, rfl, ?_, ⟨_, rfl⟩, hW, hsame.mono (by first | decide | exact Nat.le_of_ble_eq_true rfl) (by first | decide | exact Nat.le_of_ble_eq_true rfl)⟩
  show QVals Z u0 u1 u2 h0 n0 _ T5.heap _
  rw [e5]
  exact ⟨_, _, rfl, N0, K3, (Nat.le_trans K0.1 (Nat.le_of_eq g3.symm)), V3⟩

theorem D1_0 : decode jdk_29_method_65_code 0 = .ok (.iload_n 0, 1) := by decide +kernel
theorem D1_1 : decode jdk_29_method_65_code 1 = .ok (.iload_n 1, 1) := by decide +kernel
theorem D1_2 : decode jdk_29_method_65_code 2 = .ok (.if_icmp .lt 7, 3) := by decide +kernel
theorem D1_9 : decode jdk_29_method_65_code 9 = .ok (.iload_n 1, 1) := by decide +kernel
theorem D1_10 : decode jdk_29_method_65_code 10 = .ok (.ireturn, 1) := by decide +kernel
theorem D1_5 : decode jdk_29_method_65_code 5 = .ok (.iload_n 0, 1) := by decide +kernel
theorem D1_6 : decode jdk_29_method_65_code 6 = .ok (.goto 4, 3) := by decide +kernel
theorem ef_rmMax (m : MethodId) (x0 : Int32) (x1 : Int32) : entryFrame m #[(.int x0), (.int x1)] 2 = mkF m 0 #[.val (.int x0), .val (.int x1)] [] := by first | (simp [entryFrame, mkF, argsToLocals, Value.category]; done) | rfl
set_option maxRecDepth 65536 in
set_option maxHeartbeats 40000000 in
theorem rmMax (l : Launch) (Z : State) (a0 : Array Value) (hw : ∀ d ∈ tables_1, d.before a0 Z = true) (ws : List Jvm.Cond) (i j : Int32) (h0 : Heap) (n0 : Nat) (Z0 : n0 ≤ h0.size)  :
    MetFree l (⟨"java/lang/Math", "max", "(II)I"⟩ : MethodName) (head1 (Jvm.Cond.code (⟨"java/lang/Math", "max", "(II)I"⟩ : MethodName) jdk_29_method_65_code 2 (some .int) :: ws) ({ frames := 0, cells := 0, slots := 0, locals := 0 } : Room)) (fun aa U => aa = #[(.int i), (.int j)] ∧ Z.Warmed39 U.vm ∧ U.heap = h0) (fun _ _ _ _ _ => True) (fun _ U o U' => ∃ v L, o = .returned v ∧ QInt Z (if i < j then j else i) h0 n0 v U'.heap L ∧ FrameEnd U o U' L ({ frames := 0, cells := 0, slots := 0, locals := 0 } : Room).cells ({ frames := 0, cells := 0, slots := 0, locals := 0 } : Room).slots) := by
  refine MetFree.of_bodySF (by decide +kernel) hisR ?_
  intro p e s m args below meth c s₁ Bd hml0 hP hK
  obtain ⟨rfl, hZ, hh⟩ := hP
  have hx := Bd.exec
  have hby := Bd.bytes
  have hml : c.maxLocals = 2 := hml0
  have hown : s.vm.findClass "java/lang/Math" = some m.cls := findClass_of_methodNamed Bd.named
  have hnm := (name_of_methodNamed Bd.named Bd.method).1
  have X0 : Stand p l e ({ frames := 0, cells := 0, slots := 0, locals := 0 } : Room) s m #[(.int i), (.int j)] below meth c s₁ [] 0 0 := Stand.of_body Bd
  have e0 : s₁.heap = h0 := by rw [← hh, Bd.state]; rfl
  have N0 := Fr.nil n0
  have K0 := Keep.refl h0 []
  obtain ⟨S0, hS0⟩ : ∃ z, z = s₁.setTop (entryFrame m #[(.int i), (.int j)] 2) := ⟨_, rfl⟩
  rw [← hS0]
  have c0 : SS p e below S0 (s₁.setTop (mkF m 0 #[vi i, vi j] [])) := by
    rw [hS0]; exact castTop (ef_rmMax m i j) (Steps.refl _)
  have c1 : SS p e below S0 (s₁.setTop (mkF m 2 #[vi i, vi j] [(.int j), (.int i)])) := c0.trans (by
    show SS p e below (s₁.setTop (mkF m 0 #[vi i, vi j] [])) _
    refine XS.iloadN X0.here hx rfl (hb hby D1_0) rfl ?_
    refine XS.iloadN X0.here hx rfl (hb hby D1_1) rfl ?_
    exact Steps.refl _)
  by_cases hq2 : i < j
  · have c3 : SS p e below S0 (s₁.setTop (mkF m 10 #[vi i, vi j] [(.int j)])) := c1.trans (by
      show SS p e below (s₁.setTop (mkF m 2 #[vi i, vi j] [(.int j), (.int i)])) _
      refine XS.icmpYes X0.here hx rfl (pc0 := 2) (pc' := 9) rfl (hb hby D1_2) rfl (tlt hq2).1 (by decide) (by decide) ?_
      refine XS.iloadN X0.here hx rfl (hb hby D1_9) rfl ?_
      exact Steps.refl _)
    obtain ⟨fs, hr, hrun, hended, hW, hsame⟩ := X0.leave (v := some (.int j)) (fun h => by rw [Bd.returns] at h; cases h)
    refine ⟨_, _, c3.trans (retOut X0 hx Bd.returns rfl (Or.inl ⟨rfl, by simp, _, rfl⟩) (hb hby D1_10) hr), hrun, hended, _, _, rfl, ?_, ⟨_, rfl⟩, hW, hsame.mono (by first | decide | exact Nat.le_of_ble_eq_true rfl) (by first | decide | exact Nat.le_of_ble_eq_true rfl)⟩
    show QInt Z (if i < j then j else i) h0 n0 _ s₁.heap _
    rw [e0]
    exact ⟨by rw [if_pos hq2], N0, rfl⟩
  · have c4 : SS p e below S0 (s₁.setTop (mkF m 10 #[vi i, vi j] [(.int i)])) := c1.trans (by
      show SS p e below (s₁.setTop (mkF m 2 #[vi i, vi j] [(.int j), (.int i)])) _
      refine XS.icmpNo X0.here hx rfl (hb hby D1_2) rfl (flt hq2).1 ?_
      refine XS.iloadN X0.here hx rfl (hb hby D1_5) rfl ?_
      refine XS.goto X0.here hx rfl (pc0 := 6) (pc' := 10) rfl (hb hby D1_6) (by decide) (by decide) ?_
      exact Steps.refl _)
    obtain ⟨fs, hr, hrun, hended, hW, hsame⟩ := X0.leave (v := some (.int i)) (fun h => by rw [Bd.returns] at h; cases h)
    refine ⟨_, _, c4.trans (retOut X0 hx Bd.returns rfl (Or.inl ⟨rfl, by simp, _, rfl⟩) (hb hby D1_10) hr), hrun, hended, _, _, rfl, ?_, ⟨_, rfl⟩, hW, hsame.mono (by first | decide | exact Nat.le_of_ble_eq_true rfl) (by first | decide | exact Nat.le_of_ble_eq_true rfl)⟩
    show QInt Z (if i < j then j else i) h0 n0 _ s₁.heap _
    rw [e0]
    exact ⟨by rw [if_neg hq2], N0, rfl⟩

def QKI (Z : State) (r : Int32) (h0 : Heap) (n0 : Nat) (v : Option Value) (h : Heap) (L : List Loc) : Prop := v = some (.int r) ∧ Fr n0 L ∧ Keep h0 h []

theorem D2_0 : decode prog_48_method_4_code 0 = .ok (.iconst 0, 1) := by decide +kernel
theorem D2_1 : decode prog_48_method_4_code 1 = .ok (.istore_n 0, 1) := by decide +kernel
theorem pd_ocaLcomsexamplespricefoldspricefoldsmodelsIdentifiere : parseMethodDescriptor "()[Lcom/example/pricefold/pricefold/model/Identifier;" = some ⟨[], some (.array (.object "com/example/pricefold/pricefold/model/Identifier"))⟩ := by decide +kernel
theorem D2_2 : decode prog_48_method_4_code 2 = .ok (.invokestatic 36, 3) := by decide +kernel
theorem D2_5 : decode prog_48_method_4_code 5 = .ok (.astore_n 1, 1) := by decide +kernel
theorem D2_6 : decode prog_48_method_4_code 6 = .ok (.aload_n 1, 1) := by decide +kernel
theorem D2_7 : decode prog_48_method_4_code 7 = .ok (.arraylength, 1) := by decide +kernel
theorem D2_8 : decode prog_48_method_4_code 8 = .ok (.istore_n 2, 1) := by decide +kernel
theorem D2_9 : decode prog_48_method_4_code 9 = .ok (.iconst 0, 1) := by decide +kernel
theorem D2_10 : decode prog_48_method_4_code 10 = .ok (.istore_n 3, 1) := by decide +kernel
theorem D2_11 : decode prog_48_method_4_code 11 = .ok (.iload_n 3, 1) := by decide +kernel
theorem D2_12 : decode prog_48_method_4_code 12 = .ok (.iload_n 2, 1) := by decide +kernel
theorem D2_13 : decode prog_48_method_4_code 13 = .ok (.if_icmp .ge 24, 3) := by decide +kernel
theorem D2_16 : decode prog_48_method_4_code 16 = .ok (.aload_n 1, 1) := by decide +kernel
theorem D2_17 : decode prog_48_method_4_code 17 = .ok (.iload_n 3, 1) := by decide +kernel
theorem D2_18 : decode prog_48_method_4_code 18 = .ok (.aaload, 1) := by decide +kernel
theorem D2_19 : decode prog_48_method_4_code 19 = .ok (.astore 4, 2) := by decide +kernel
theorem D2_21 : decode prog_48_method_4_code 21 = .ok (.iload_n 0, 1) := by decide +kernel
theorem D2_22 : decode prog_48_method_4_code 22 = .ok (.aload 4, 2) := by decide +kernel
theorem D2_24 : decode prog_48_method_4_code 24 = .ok (.getfield 32, 3) := by decide +kernel
theorem pd_oIIcI : parseMethodDescriptor "(II)I" = some ⟨[.int, .int], some .int⟩ := by decide +kernel
theorem D2_27 : decode prog_48_method_4_code 27 = .ok (.invokestatic 40, 3) := by decide +kernel
theorem D2_30 : decode prog_48_method_4_code 30 = .ok (.istore_n 0, 1) := by decide +kernel
theorem D2_31 : decode prog_48_method_4_code 31 = .ok (.iinc 3 1, 3) := by decide +kernel
theorem D2_34 : decode prog_48_method_4_code 34 = .ok (.goto (-23), 3) := by decide +kernel
theorem D2_37 : decode prog_48_method_4_code 37 = .ok (.iload_n 0, 1) := by decide +kernel
theorem D2_38 : decode prog_48_method_4_code 38 = .ok (.ireturn, 1) := by decide +kernel
theorem ef_rmLong (m : MethodId)  : entryFrame m #[] 5 = mkF m 0 #[.unset, .unset, .unset, .unset, .unset] [] := by first | (simp [entryFrame, mkF, argsToLocals, Value.category]; done) | rfl
set_option maxRecDepth 65536 in
set_option maxHeartbeats 40000000 in
theorem rmLong (l : Launch) (Z : State) (a0 : Array Value) (hw : ∀ d ∈ tables_1, d.before a0 Z = true) (ws : List Jvm.Cond) (u0 u1 u2 aV : Addr) (kV : ClassId) (h0 : Heap) (n0 : Nat) (Z0 : n0 ≤ h0.size) (su0 : Sta Z Z.heap "com/example/pricefold/pricefold/model/Identifier" "VOUCHER_CODE" "Lcom/example/pricefold/pricefold/model/Identifier;" (.ref u0)) (su1 : Sta Z Z.heap "com/example/pricefold/pricefold/model/Identifier" "ORDER_ID" "Lcom/example/pricefold/pricefold/model/Identifier;" (.ref u1)) (su2 : Sta Z Z.heap "com/example/pricefold/pricefold/model/Identifier" "CHANNEL" "Lcom/example/pricefold/pricefold/model/Identifier;" (.ref u2)) (xu0 : Exa Z Z.heap u0 "com/example/pricefold/pricefold/model/Identifier") (xu1 : Exa Z Z.heap u1 "com/example/pricefold/pricefold/model/Identifier") (xu2 : Exa Z Z.heap u2 "com/example/pricefold/pricefold/model/Identifier") (ou0 : Fld Z Z.heap u0 "com/example/pricefold/pricefold/model/Identifier" "mostCharacters" "I" (.int 64)) (ou1 : Fld Z Z.heap u1 "com/example/pricefold/pricefold/model/Identifier" "mostCharacters" "I" (.int 64)) (ou2 : Fld Z Z.heap u2 "com/example/pricefold/pricefold/model/Identifier" "mostCharacters" "I" (.int 64)) (sV : Sta Z Z.heap "com/example/pricefold/pricefold/model/Identifier" "$VALUES" "[Lcom/example/pricefold/pricefold/model/Identifier;" (.ref aV)) (VV : Arv Z Z.heap aV kV (.object "com/example/pricefold/pricefold/model/Identifier") (3 : Int32) [.ref u0, .ref u1, .ref u2] .null) (EV : Exa Z Z.heap aV "[Lcom/example/pricefold/pricefold/model/Identifier;") (hF : Fit Z) (X00 : Old Z n0 h0) :
    MetFree l (⟨"com/example/pricefold/pricefold/model/Identifier", "longest", "()I"⟩ : MethodName) (head1 (Jvm.Cond.code (⟨"com/example/pricefold/pricefold/model/Identifier", "longest", "()I"⟩ : MethodName) prog_48_method_4_code 5 (some .int) :: ws) ({ frames := 2, cells := 1, slots := 3, locals := 25 } : Room)) (fun aa U => aa = #[] ∧ Z.Warmed39 U.vm ∧ U.heap = h0) (fun _ _ _ _ _ => True) (fun _ U o U' => ∃ v L, o = .returned v ∧ QKI Z 64 h0 n0 v U'.heap L ∧ FrameEnd U o U' L ({ frames := 2, cells := 1, slots := 3, locals := 25 } : Room).cells ({ frames := 2, cells := 1, slots := 3, locals := 25 } : Room).slots) := by
  refine MetFree.of_bodySF (plainFor_of_name pn_com_example_pricefold_pricefold_model_Identifier) hisR ?_
  intro p e s m args below meth c s₁ Bd hml0 hP hK
  obtain ⟨rfl, hZ, hh⟩ := hP
  have hx := Bd.exec
  have hby := Bd.bytes
  have hml : c.maxLocals = 5 := hml0
  have hown : s.vm.findClass "com/example/pricefold/pricefold/model/Identifier" = some m.cls := findClass_of_methodNamed Bd.named
  have hnm := (name_of_methodNamed Bd.named Bd.method).1
  have X0 : Stand p l e ({ frames := 2, cells := 1, slots := 3, locals := 25 } : Room) s m #[] below meth c s₁ [] 0 0 := Stand.of_body Bd
  have e0 : s₁.heap = h0 := by rw [← hh, Bd.state]; rfl
  have N0 := Fr.nil n0
  have K0 := Keep.refl h0 []
  obtain ⟨S0, hS0⟩ : ∃ z, z = s₁.setTop (entryFrame m #[] 5) := ⟨_, rfl⟩
  rw [← hS0]
  have c0 : SS p e below S0 (s₁.setTop (mkF m 0 #[.unset, .unset, .unset, .unset, .unset] [])) := by
    rw [hS0]; exact castTop (ef_rmLong m ) (Steps.refl _)
  have c1 : SS p e below S0 (s₁.setTop (mkF m 2 #[vi 0, .unset, .unset, .unset, .unset] [])) := c0.trans (by
    show SS p e below (s₁.setTop (mkF m 0 #[.unset, .unset, .unset, .unset, .unset] [])) _
    refine XS.iconst X0.here hx rfl (hb hby D2_0) ?_
    refine XS.istoreN X0.here hx rfl (hb hby D2_1) rfl (l' := #[vi 0, .unset, .unset, .unset, .unset]) rfl ?_
    exact Steps.refl _)
  obtain ⟨_, _, ⟨T2, L2, kk2, nn2⟩, -, X2, ⟨Lc2, hQ2, l2, y2, z2⟩, st2⟩ := Jvm.LawKit.callS X0 hx (y := (⟨"com/example/pricefold/pricefold/model/Identifier", "values", "()[Lcom/example/pricefold/pricefold/model/Identifier;"⟩ : MethodName)) hown (mvT hZ (ww hw 37 rfl)) (mvT hZ (ww hw 38 rfl)) (mvT hZ (ww hw 2 rfl)) (mvT hZ (ww hw 39 rfl)) (by decide) (backOf (W := 0) (rmVals l Z a0 hw [] u0 u1 u2 aV kV h0 n0 Z0 sV VV EV hF X00) hZ (ww hw 39 rfl) (ww hw 2 rfl) (by decide) (by decide)) (g := (mkF m 2 #[vi 0, .unset, .unset, .unset, .unset] [])) rfl (by rw [hml]; rfl) (argsL := []) (rest := []) (lenOf pd_ocaLcomsexamplespricefoldspricefoldsmodelsIdentifiere rfl) rfl (by show 2 * 0 + _ ≤ _; exact Nat.le_of_eq rfl) (hb hby D2_2) (fun _ _ => ⟨rfl, e0, (by decide : 0 + 1 ≤ _), (by decide : 0 + 3 ≤ _)⟩)
  dsimp only [Pt.U, Pt.locs, Pt.cells, Pt.slots] at X2 l2 y2 z2 st2 hQ2
  subst l2 y2 z2
  obtain ⟨t2, kb2, rfl, Nq2, Kq2, gt2, Vt2⟩ := hQ2
  have c3 : SS p e below S0 (T2.setTop (mkF m 5 #[vi 0, .unset, .unset, .unset, .unset] [(.ref t2)])) := c1.trans (st2 _ (Steps.refl _))
  have N2 := Fr.app N0 Nq2
  have z2 : n0 ≤ T2.heap.size := Nat.le_trans Z0 Kq2.1
  have K2 := K0.trans Kq2 all0
  have c4 : SS p e below S0 (T2.setTop (mkF m 7 #[vi 0, vr t2, .unset, .unset, .unset] [(.ref t2)])) := c3.trans (by
    show SS p e below (T2.setTop (mkF m 5 #[vi 0, .unset, .unset, .unset, .unset] [(.ref t2)])) _
    refine XS.astoreN X2.here hx rfl (hb hby D2_5) rfl rfl (l' := #[vi 0, vr t2, .unset, .unset, .unset]) rfl ?_
    refine XS.aloadN X2.here hx rfl (hb hby D2_6) rfl rfl ?_
    exact Steps.refl _)
  obtain ⟨cl5, Ar5, -, S5, Nn5, -, -⟩ := id Vt2
  have c6 : SS p e below S0 (T2.setTop (mkF m 18 #[vi 0, vr t2, vi 3, vi 0, .unset] [(.int 0), (.ref t2)])) := c4.trans (by
    show SS p e below (T2.setTop (mkF m 7 #[vi 0, vr t2, .unset, .unset, .unset] [(.ref t2)])) _
    refine X2.arraylength hx Ar5.1 (State.isArrayOf_alike hZ.alike Ar5.2.1) (g := (mkF m 7 #[vi 0, vr t2, .unset, .unset, .unset] [(.ref t2)])) rfl rfl (hb hby D2_7) _ ?_
    rw [len_of S5 Nn5]
    refine XS.istoreN X2.here hx rfl (hb hby D2_8) rfl (l' := #[vi 0, vr t2, vi 3, .unset, .unset]) rfl ?_
    refine XS.iconst X2.here hx rfl (hb hby D2_9) ?_
    show SS p e below (T2.setTop (mkF m 10 #[vi 0, vr t2, vi 3, .unset, .unset] [(.int 0)])) _
    refine XS.istoreN X2.here hx rfl (hb hby D2_10) rfl (l' := #[vi 0, vr t2, vi 3, vi 0, .unset]) rfl ?_
    refine XS.iloadN X2.here hx rfl (hb hby D2_11) rfl ?_
    refine XS.iloadN X2.here hx rfl (hb hby D2_12) rfl ?_
    refine XS.icmpNo X2.here hx rfl (hb hby D2_13) rfl (tlt (by decide : ((0 : Int32) < (3 : Int32)))).2.1 ?_
    show SS p e below (T2.setTop (mkF m 16 #[vi 0, vr t2, vi 3, vi 0, .unset] [])) _
    refine XS.aloadN X2.here hx rfl (hb hby D2_16) rfl rfl ?_
    refine XS.iloadN X2.here hx rfl (hb hby D2_17) rfl ?_
    exact Steps.refl _)
  obtain ⟨cl7, Ar7, -, S7, -, Ha7, -⟩ := id Vt2
  have c8 : SS p e below S0 (T2.setTop (mkF m 24 #[vi 0, vr t2, vi 3, vi 0, vr u0] [(.ref u0), (.int 0)])) := c6.trans (by
    show SS p e below (T2.setTop (mkF m 18 #[vi 0, vr t2, vi 3, vi 0, .unset] [(.int 0), (.ref t2)])) _
    refine X2.aaload hx (j := (0 : Int32)) (v := (.ref u0)) Ar7.1 (State.isArrayOf_alike hZ.alike Ar7.2.1) rfl Ar7.2.2 (inb_of S7 ⟨by decide, by decide⟩) (Ha7.at (inb_of S7 ⟨by decide, by decide⟩) rfl) (g := (mkF m 18 #[vi 0, vr t2, vi 3, vi 0, .unset] [(.int 0), (.ref t2)])) rfl rfl (hb hby D2_18) _ ?_
    refine XS.astore X2.here hx rfl (hb hby D2_19) rfl rfl (l' := #[vi 0, vr t2, vi 3, vi 0, vr u0]) rfl ?_
    refine XS.iloadN X2.here hx rfl (hb hby D2_21) rfl ?_
    refine XS.aload X2.here hx rfl (hb hby D2_22) rfl rfl ?_
    exact Steps.refl _)
  obtain ⟨T9, X9, e9, st9⟩ := getF X2 hx hZ hown (host := "") (Or.inl (ww hw 54 rfl)) Via.refl rfl ((ou0.ext X00.2).keep Kq2 nin0) (g := (mkF m 24 #[vi 0, vr t2, vi 3, vi 0, vr u0] [(.ref u0), (.int 0)])) rfl rfl (hb hby D2_24)
  have c10 : SS p e below S0 (T9.setTop (mkF m 27 #[vi 0, vr t2, vi 3, vi 0, vr u0] [(.int 64), (.int 0)])) := c8.trans (st9 _ (Steps.refl _))
  obtain ⟨_, _, ⟨T11, L11, kk11, nn11⟩, -, X11, ⟨Lc11, hQ11, l11, y11, z11⟩, st11⟩ := Jvm.LawKit.callS X9 hx (y := (⟨"java/lang/Math", "max", "(II)I"⟩ : MethodName)) hown (mvT hZ (ww hw 56 rfl)) (mvT hZ (ww hw 57 rfl)) (mvT hZ (ww hw 58 rfl)) (mvT hZ (ww hw 59 rfl)) (by decide) (backOf (W := 0) (rmMax l Z a0 hw [] (0 : Int32) (64 : Int32) T2.heap n0 z2 ) hZ (ww hw 59 rfl) (ww hw 58 rfl) (by decide) (by decide)) (g := (mkF m 27 #[vi 0, vr t2, vi 3, vi 0, vr u0] [(.int 64), (.int 0)])) rfl (by rw [hml]; rfl) (argsL := [(.int 0), (.int 64)]) (rest := []) (lenOf pd_oIIcI rfl) rfl (by show 2 * 0 + _ ≤ _; exact Nat.le_of_eq rfl) (hb hby D2_27) (fun _ _ => ⟨rfl, e9, (by decide : 1 + 0 ≤ _), (by decide : 3 + 0 ≤ _)⟩)
  dsimp only [Pt.U, Pt.locs, Pt.cells, Pt.slots] at X11 l11 y11 z11 st11 hQ11
  subst l11 y11 z11
  obtain ⟨rfl, Nq11, eq11⟩ := hQ11
  have c12 : SS p e below S0 (T11.setTop (mkF m 30 #[vi 0, vr t2, vi 3, vi 0, vr u0] [(.int (if (0 : Int32) < (64 : Int32) then (64 : Int32) else (0 : Int32)))])) := c10.trans (st11 _ (Steps.refl _))
  have N11 := Fr.app N2 Nq11
  rw [(show (if (0 : Int32) < (64 : Int32) then (64 : Int32) else (0 : Int32)) = (64 : Int32) from by decide)] at c12
  have c13 : SS p e below S0 (T11.setTop (mkF m 18 #[vi 64, vr t2, vi 3, vi 1, vr u0] [(.int 1), (.ref t2)])) := c12.trans (by
    show SS p e below (T11.setTop (mkF m 30 #[vi 0, vr t2, vi 3, vi 0, vr u0] [(.int 64)])) _
    refine XS.istoreN X11.here hx rfl (hb hby D2_30) rfl (l' := #[vi 64, vr t2, vi 3, vi 0, vr u0]) rfl ?_
    refine XS.iinc X11.here hx rfl (hb hby D2_31) rfl (l' := #[vi 64, vr t2, vi 3, vi 1, vr u0]) rfl ?_
    refine XS.goto X11.here hx rfl (pc0 := 34) (pc' := 11) rfl (hb hby D2_34) (by decide) (by decide) ?_
    refine XS.iloadN X11.here hx rfl (hb hby D2_11) rfl ?_
    show SS p e below (T11.setTop (mkF m 12 #[vi 64, vr t2, vi 3, vi 1, vr u0] [(.int 1)])) _
    refine XS.iloadN X11.here hx rfl (hb hby D2_12) rfl ?_
    refine XS.icmpNo X11.here hx rfl (hb hby D2_13) rfl (tlt (by decide : ((1 : Int32) < (3 : Int32)))).2.1 ?_
    refine XS.aloadN X11.here hx rfl (hb hby D2_16) rfl rfl ?_
    refine XS.iloadN X11.here hx rfl (hb hby D2_17) rfl ?_
    exact Steps.refl _)
  obtain ⟨cl14, Ar14, -, S14, -, Ha14, -⟩ := id Vt2
  have c15 : SS p e below S0 (T11.setTop (mkF m 24 #[vi 64, vr t2, vi 3, vi 1, vr u1] [(.ref u1), (.int 64)])) := c13.trans (by
    show SS p e below (T11.setTop (mkF m 18 #[vi 64, vr t2, vi 3, vi 1, vr u0] [(.int 1), (.ref t2)])) _
    refine X11.aaload hx (j := (1 : Int32)) (v := (.ref u1)) (by rw [eq11]; exact Ar14.1) (State.isArrayOf_alike hZ.alike Ar14.2.1) rfl Ar14.2.2 (inb_of S14 ⟨by decide, by decide⟩) (Ha14.at (inb_of S14 ⟨by decide, by decide⟩) rfl) (g := (mkF m 18 #[vi 64, vr t2, vi 3, vi 1, vr u0] [(.int 1), (.ref t2)])) rfl rfl (hb hby D2_18) _ ?_
    refine XS.astore X11.here hx rfl (hb hby D2_19) rfl rfl (l' := #[vi 64, vr t2, vi 3, vi 1, vr u1]) rfl ?_
    refine XS.iloadN X11.here hx rfl (hb hby D2_21) rfl ?_
    refine XS.aload X11.here hx rfl (hb hby D2_22) rfl rfl ?_
    exact Steps.refl _)
  obtain ⟨T16, X16, e16, st16⟩ := getF X11 hx hZ hown (host := "") (Or.inl (ww hw 54 rfl)) Via.refl eq11 ((ou1.ext X00.2).keep Kq2 nin0) (g := (mkF m 24 #[vi 64, vr t2, vi 3, vi 1, vr u1] [(.ref u1), (.int 64)])) rfl rfl (hb hby D2_24)
  have c17 : SS p e below S0 (T16.setTop (mkF m 27 #[vi 64, vr t2, vi 3, vi 1, vr u1] [(.int 64), (.int 64)])) := c15.trans (st16 _ (Steps.refl _))
  obtain ⟨_, _, ⟨T18, L18, kk18, nn18⟩, -, X18, ⟨Lc18, hQ18, l18, y18, z18⟩, st18⟩ := Jvm.LawKit.callS X16 hx (y := (⟨"java/lang/Math", "max", "(II)I"⟩ : MethodName)) hown (mvT hZ (ww hw 56 rfl)) (mvT hZ (ww hw 57 rfl)) (mvT hZ (ww hw 58 rfl)) (mvT hZ (ww hw 59 rfl)) (by decide) (backOf (W := 0) (rmMax l Z a0 hw [] (64 : Int32) (64 : Int32) T2.heap n0 z2 ) hZ (ww hw 59 rfl) (ww hw 58 rfl) (by decide) (by decide)) (g := (mkF m 27 #[vi 64, vr t2, vi 3, vi 1, vr u1] [(.int 64), (.int 64)])) rfl (by rw [hml]; rfl) (argsL := [(.int 64), (.int 64)]) (rest := []) (lenOf pd_oIIcI rfl) rfl (by show 2 * 0 + _ ≤ _; exact Nat.le_of_eq rfl) (hb hby D2_27) (fun _ _ => ⟨rfl, e16, (by decide : 1 + 0 ≤ _), (by decide : 3 + 0 ≤ _)⟩)
  dsimp only [Pt.U, Pt.locs, Pt.cells, Pt.slots] at X18 l18 y18 z18 st18 hQ18
  subst l18 y18 z18
  obtain ⟨rfl, Nq18, eq18⟩ := hQ18
  have c19 : SS p e below S0 (T18.setTop (mkF m 30 #[vi 64, vr t2, vi 3, vi 1, vr u1] [(.int (if (64 : Int32) < (64 : Int32) then (64 : Int32) else (64 : Int32)))])) := c17.trans (st18 _ (Steps.refl _))
  have N18 := Fr.app N11 Nq18
  rw [(show (if (64 : Int32) < (64 : Int32) then (64 : Int32) else (64 : Int32)) = (64 : Int32) from by decide)] at c19
  have c20 : SS p e below S0 (T18.setTop (mkF m 18 #[vi 64, vr t2, vi 3, vi 2, vr u1] [(.int 2), (.ref t2)])) := c19.trans (by
    show SS p e below (T18.setTop (mkF m 30 #[vi 64, vr t2, vi 3, vi 1, vr u1] [(.int 64)])) _
    refine XS.istoreN X18.here hx rfl (hb hby D2_30) rfl (l' := #[vi 64, vr t2, vi 3, vi 1, vr u1]) rfl ?_
    refine XS.iinc X18.here hx rfl (hb hby D2_31) rfl (l' := #[vi 64, vr t2, vi 3, vi 2, vr u1]) rfl ?_
    refine XS.goto X18.here hx rfl (pc0 := 34) (pc' := 11) rfl (hb hby D2_34) (by decide) (by decide) ?_
    refine XS.iloadN X18.here hx rfl (hb hby D2_11) rfl ?_
    show SS p e below (T18.setTop (mkF m 12 #[vi 64, vr t2, vi 3, vi 2, vr u1] [(.int 2)])) _
    refine XS.iloadN X18.here hx rfl (hb hby D2_12) rfl ?_
    refine XS.icmpNo X18.here hx rfl (hb hby D2_13) rfl (tlt (by decide : ((2 : Int32) < (3 : Int32)))).2.1 ?_
    refine XS.aloadN X18.here hx rfl (hb hby D2_16) rfl rfl ?_
    refine XS.iloadN X18.here hx rfl (hb hby D2_17) rfl ?_
    exact Steps.refl _)
  obtain ⟨cl21, Ar21, -, S21, -, Ha21, -⟩ := id Vt2
  have c22 : SS p e below S0 (T18.setTop (mkF m 24 #[vi 64, vr t2, vi 3, vi 2, vr u2] [(.ref u2), (.int 64)])) := c20.trans (by
    show SS p e below (T18.setTop (mkF m 18 #[vi 64, vr t2, vi 3, vi 2, vr u1] [(.int 2), (.ref t2)])) _
    refine X18.aaload hx (j := (2 : Int32)) (v := (.ref u2)) (by rw [eq18]; exact Ar21.1) (State.isArrayOf_alike hZ.alike Ar21.2.1) rfl Ar21.2.2 (inb_of S21 ⟨by decide, by decide⟩) (Ha21.at (inb_of S21 ⟨by decide, by decide⟩) rfl) (g := (mkF m 18 #[vi 64, vr t2, vi 3, vi 2, vr u1] [(.int 2), (.ref t2)])) rfl rfl (hb hby D2_18) _ ?_
    refine XS.astore X18.here hx rfl (hb hby D2_19) rfl rfl (l' := #[vi 64, vr t2, vi 3, vi 2, vr u2]) rfl ?_
    refine XS.iloadN X18.here hx rfl (hb hby D2_21) rfl ?_
    refine XS.aload X18.here hx rfl (hb hby D2_22) rfl rfl ?_
    exact Steps.refl _)
  obtain ⟨T23, X23, e23, st23⟩ := getF X18 hx hZ hown (host := "") (Or.inl (ww hw 54 rfl)) Via.refl eq18 ((ou2.ext X00.2).keep Kq2 nin0) (g := (mkF m 24 #[vi 64, vr t2, vi 3, vi 2, vr u2] [(.ref u2), (.int 64)])) rfl rfl (hb hby D2_24)
  have c24 : SS p e below S0 (T23.setTop (mkF m 27 #[vi 64, vr t2, vi 3, vi 2, vr u2] [(.int 64), (.int 64)])) := c22.trans (st23 _ (Steps.refl _))
  obtain ⟨_, _, ⟨T25, L25, kk25, nn25⟩, -, X25, ⟨Lc25, hQ25, l25, y25, z25⟩, st25⟩ := Jvm.LawKit.callS X23 hx (y := (⟨"java/lang/Math", "max", "(II)I"⟩ : MethodName)) hown (mvT hZ (ww hw 56 rfl)) (mvT hZ (ww hw 57 rfl)) (mvT hZ (ww hw 58 rfl)) (mvT hZ (ww hw 59 rfl)) (by decide) (backOf (W := 0) (rmMax l Z a0 hw [] (64 : Int32) (64 : Int32) T2.heap n0 z2 ) hZ (ww hw 59 rfl) (ww hw 58 rfl) (by decide) (by decide)) (g := (mkF m 27 #[vi 64, vr t2, vi 3, vi 2, vr u2] [(.int 64), (.int 64)])) rfl (by rw [hml]; rfl) (argsL := [(.int 64), (.int 64)]) (rest := []) (lenOf pd_oIIcI rfl) rfl (by show 2 * 0 + _ ≤ _; exact Nat.le_of_eq rfl) (hb hby D2_27) (fun _ _ => ⟨rfl, e23, (by decide : 1 + 0 ≤ _), (by decide : 3 + 0 ≤ _)⟩)
  dsimp only [Pt.U, Pt.locs, Pt.cells, Pt.slots] at X25 l25 y25 z25 st25 hQ25
  subst l25 y25 z25
  obtain ⟨rfl, Nq25, eq25⟩ := hQ25
  have c26 : SS p e below S0 (T25.setTop (mkF m 30 #[vi 64, vr t2, vi 3, vi 2, vr u2] [(.int (if (64 : Int32) < (64 : Int32) then (64 : Int32) else (64 : Int32)))])) := c24.trans (st25 _ (Steps.refl _))
  have N25 := Fr.app N18 Nq25
  rw [(show (if (64 : Int32) < (64 : Int32) then (64 : Int32) else (64 : Int32)) = (64 : Int32) from by decide)] at c26
  have c27 : SS p e below S0 (T25.setTop (mkF m 38 #[vi 64, vr t2, vi 3, vi 3, vr u2] [(.int 64)])) := c26.trans (by
    show SS p e below (T25.setTop (mkF m 30 #[vi 64, vr t2, vi 3, vi 2, vr u2] [(.int 64)])) _
    refine XS.istoreN X25.here hx rfl (hb hby D2_30) rfl (l' := #[vi 64, vr t2, vi 3, vi 2, vr u2]) rfl ?_
    refine XS.iinc X25.here hx rfl (hb hby D2_31) rfl (l' := #[vi 64, vr t2, vi 3, vi 3, vr u2]) rfl ?_
    refine XS.goto X25.here hx rfl (pc0 := 34) (pc' := 11) rfl (hb hby D2_34) (by decide) (by decide) ?_
    refine XS.iloadN X25.here hx rfl (hb hby D2_11) rfl ?_
    show SS p e below (T25.setTop (mkF m 12 #[vi 64, vr t2, vi 3, vi 3, vr u2] [(.int 3)])) _
    refine XS.iloadN X25.here hx rfl (hb hby D2_12) rfl ?_
    refine XS.icmpYes X25.here hx rfl (pc0 := 13) (pc' := 37) rfl (hb hby D2_13) rfl (flt (by decide : ¬ ((3 : Int32) < (3 : Int32)))).2.1 (by decide) (by decide) ?_
    refine XS.iloadN X25.here hx rfl (hb hby D2_37) rfl ?_
    exact Steps.refl _)
  obtain ⟨fs, hr, hrun, hended, hW, hsame⟩ := X25.leave (v := some (.int 64)) (fun h => by rw [Bd.returns] at h; cases h)
  refine ⟨_, _, c27.trans (retOut X25 hx Bd.returns rfl (Or.inl ⟨rfl, by simp, _, rfl⟩) (hb hby D2_38) hr), hrun, hended, _, _, rfl, ?_, ⟨_, rfl⟩, hW, hsame.mono (by first | decide | exact Nat.le_of_ble_eq_true rfl) (by first | decide | exact Nat.le_of_ble_eq_true rfl)⟩
  show QKI Z 64 h0 n0 _ T25.heap _
  rw [eq25]
  exact ⟨rfl, N25, K2⟩

theorem D3_0 : decode jdk_45_method_3_code 0 = .ok (.aload_n 0, 1) := by decide +kernel
theorem D3_1 : decode jdk_45_method_3_code 1 = .ok (.getfield 7, 3) := by decide +kernel
theorem D3_4 : decode jdk_45_method_3_code 4 = .ok (.arraylength, 1) := by decide +kernel
theorem D3_5 : decode jdk_45_method_3_code 5 = .ok (.ireturn, 1) := by decide +kernel
theorem pn_java_util_ImmutableCollections_ListN : plainName "java/util/ImmutableCollections$ListN" = true := by first | (simp [plainName, overriddenIn]; done) | decide +kernel
theorem ef_rmSize (m : MethodId) (x0 : Addr) : entryFrame m #[(.ref x0)] 1 = mkF m 0 #[.val (.ref x0)] [] := by first | (simp [entryFrame, mkF, argsToLocals, Value.category]; done) | rfl
set_option maxRecDepth 65536 in
set_option maxHeartbeats 40000000 in
theorem rmSize (l : Launch) (Z : State) (a0 : Array Value) (hw : ∀ d ∈ tables_1, d.before a0 Z = true) (ws : List Jvm.Cond) (ls ea q0 q1 q2 q3 q4 : Addr) (ke : ClassId) (h0 : Heap) (n0 : Nat) (Z0 : n0 ≤ h0.size) (FL : Fld Z h0 ls "java/util/ImmutableCollections$ListN" "elements" "[Ljava/lang/Object;" (.ref ea)) (VL : Arv Z h0 ea ke (.object "java/lang/Object") (5 : Int32) [.ref q0, .ref q1, .ref q2, .ref q3, .ref q4] .null) :
    MetFree l (⟨"java/util/ImmutableCollections$ListN", "size", "()I"⟩ : MethodName) (head1 (Jvm.Cond.code (⟨"java/util/ImmutableCollections$ListN", "size", "()I"⟩ : MethodName) jdk_45_method_3_code 1 (some .int) :: ws) ({ frames := 0, cells := 0, slots := 0, locals := 0 } : Room)) (fun aa U => aa = #[(.ref ls)] ∧ Z.Warmed39 U.vm ∧ U.heap = h0) (fun _ _ _ _ _ => True) (fun _ U o U' => ∃ v L, o = .returned v ∧ QInt Z 5 h0 n0 v U'.heap L ∧ FrameEnd U o U' L ({ frames := 0, cells := 0, slots := 0, locals := 0 } : Room).cells ({ frames := 0, cells := 0, slots := 0, locals := 0 } : Room).slots) := by
  refine MetFree.of_bodySF (plainFor_of_name pn_java_util_ImmutableCollections_ListN) hisR ?_
  intro p e s m args below meth c s₁ Bd hml0 hP hK
  obtain ⟨rfl, hZ, hh⟩ := hP
  have hx := Bd.exec
  have hby := Bd.bytes
  have hml : c.maxLocals = 1 := hml0
  have hown : s.vm.findClass "java/util/ImmutableCollections$ListN" = some m.cls := findClass_of_methodNamed Bd.named
  have hnm := (name_of_methodNamed Bd.named Bd.method).1
  have X0 : Stand p l e ({ frames := 0, cells := 0, slots := 0, locals := 0 } : Room) s m #[(.ref ls)] below meth c s₁ [] 0 0 := Stand.of_body Bd
  have e0 : s₁.heap = h0 := by rw [← hh, Bd.state]; rfl
  have N0 := Fr.nil n0
  have K0 := Keep.refl h0 []
  obtain ⟨S0, hS0⟩ : ∃ z, z = s₁.setTop (entryFrame m #[(.ref ls)] 1) := ⟨_, rfl⟩
  rw [← hS0]
  have c0 : SS p e below S0 (s₁.setTop (mkF m 0 #[vr ls] [])) := by
    rw [hS0]; exact castTop (ef_rmSize m ls) (Steps.refl _)
  have c1 : SS p e below S0 (s₁.setTop (mkF m 1 #[vr ls] [(.ref ls)])) := c0.trans (by
    show SS p e below (s₁.setTop (mkF m 0 #[vr ls] [])) _
    refine XS.aloadN X0.here hx rfl (hb hby D3_0) rfl rfl ?_
    exact Steps.refl _)
  obtain ⟨T2, X2, e2, st2⟩ := getF X0 hx hZ hown (host := "") (Or.inl (ww hw 123 rfl)) Via.refl e0 FL (g := (mkF m 1 #[vr ls] [(.ref ls)])) rfl rfl (hb hby D3_1)
  have c3 : SS p e below S0 (T2.setTop (mkF m 4 #[vr ls] [(.ref ea)])) := c1.trans (st2 _ (Steps.refl _))
  obtain ⟨cl4, Ar4, -, S4, Nn4, -, -⟩ := id VL
  have c5 : SS p e below S0 (T2.setTop (mkF m 5 #[vr ls] [(.int 5)])) := c3.trans (by
    show SS p e below (T2.setTop (mkF m 4 #[vr ls] [(.ref ea)])) _
    refine X2.arraylength hx (by rw [e2]; exact Ar4.1) (State.isArrayOf_alike hZ.alike Ar4.2.1) (g := (mkF m 4 #[vr ls] [(.ref ea)])) rfl rfl (hb hby D3_4) _ ?_
    rw [len_of S4 Nn4]
    exact Steps.refl _)
  obtain ⟨fs, hr, hrun, hended, hW, hsame⟩ := X2.leave (v := some (.int 5)) (fun h => by rw [Bd.returns] at h; cases h)
  refine ⟨_, _, c5.trans (retOut X2 hx Bd.returns rfl (Or.inl ⟨rfl, by simp, _, rfl⟩) (hb hby D3_5) hr), hrun, hended, _, _, rfl, ?_, ⟨_, rfl⟩, hW, hsame.mono (by first | decide | exact Nat.le_of_ble_eq_true rfl) (by first | decide | exact Nat.le_of_ble_eq_true rfl)⟩
  show QInt Z 5 h0 n0 _ T2.heap _
  rw [e2]
  exact ⟨rfl, N0, rfl⟩

def QRef (Z : State) (q : Addr) (h0 : Heap) (n0 : Nat) (v : Option Value) (h : Heap) (L : List Loc) : Prop := v = some (.ref q) ∧ Fr n0 L ∧ h = h0

theorem D4_0 : decode jdk_45_method_4_code 0 = .ok (.aload_n 0, 1) := by decide +kernel
theorem D4_1 : decode jdk_45_method_4_code 1 = .ok (.getfield 7, 3) := by decide +kernel
theorem D4_4 : decode jdk_45_method_4_code 4 = .ok (.iload_n 1, 1) := by decide +kernel
theorem D4_5 : decode jdk_45_method_4_code 5 = .ok (.aaload, 1) := by decide +kernel
theorem D4_6 : decode jdk_45_method_4_code 6 = .ok (.areturn, 1) := by decide +kernel
theorem ef_rmGet (m : MethodId) (x0 : Addr) (x1 : Int32) : entryFrame m #[(.ref x0), (.int x1)] 2 = mkF m 0 #[.val (.ref x0), .val (.int x1)] [] := by first | (simp [entryFrame, mkF, argsToLocals, Value.category]; done) | rfl
set_option maxRecDepth 65536 in
set_option maxHeartbeats 40000000 in
theorem rmGet (l : Launch) (Z : State) (a0 : Array Value) (hw : ∀ d ∈ tables_1, d.before a0 Z = true) (ws : List Jvm.Cond) (ls ea q0 q1 q2 q3 q4 : Addr) (ke : ClassId) (j : Int32) (q : Addr) (h0 : Heap) (n0 : Nat) (Z0 : n0 ≤ h0.size) (FL : Fld Z h0 ls "java/util/ImmutableCollections$ListN" "elements" "[Ljava/lang/Object;" (.ref ea)) (VL : Arv Z h0 ea ke (.object "java/lang/Object") (5 : Int32) [.ref q0, .ref q1, .ref q2, .ref q3, .ref q4] .null) (hj : ¬ j < 0 ∧ j < (5 : Int32)) (hq : ([.ref q0, .ref q1, .ref q2, .ref q3, .ref q4] : List Value).getD j.toNatClampNeg .null = .ref q) :
    MetFree l (⟨"java/util/ImmutableCollections$ListN", "get", "(I)Ljava/lang/Object;"⟩ : MethodName) (head1 (Jvm.Cond.code (⟨"java/util/ImmutableCollections$ListN", "get", "(I)Ljava/lang/Object;"⟩ : MethodName) jdk_45_method_4_code 2 (some (.object "java/lang/Object")) :: ws) ({ frames := 0, cells := 0, slots := 0, locals := 0 } : Room)) (fun aa U => aa = #[(.ref ls), (.int j)] ∧ Z.Warmed39 U.vm ∧ U.heap = h0) (fun _ _ _ _ _ => True) (fun _ U o U' => ∃ v L, o = .returned v ∧ QRef Z q h0 n0 v U'.heap L ∧ FrameEnd U o U' L ({ frames := 0, cells := 0, slots := 0, locals := 0 } : Room).cells ({ frames := 0, cells := 0, slots := 0, locals := 0 } : Room).slots) := by
  refine MetFree.of_bodySF (plainFor_of_name pn_java_util_ImmutableCollections_ListN) hisR ?_
  intro p e s m args below meth c s₁ Bd hml0 hP hK
  obtain ⟨rfl, hZ, hh⟩ := hP
  have hx := Bd.exec
  have hby := Bd.bytes
  have hml : c.maxLocals = 2 := hml0
  have hown : s.vm.findClass "java/util/ImmutableCollections$ListN" = some m.cls := findClass_of_methodNamed Bd.named
  have hnm := (name_of_methodNamed Bd.named Bd.method).1
  have X0 : Stand p l e ({ frames := 0, cells := 0, slots := 0, locals := 0 } : Room) s m #[(.ref ls), (.int j)] below meth c s₁ [] 0 0 := Stand.of_body Bd
  have e0 : s₁.heap = h0 := by rw [← hh, Bd.state]; rfl
  have N0 := Fr.nil n0
  have K0 := Keep.refl h0 []
  obtain ⟨S0, hS0⟩ : ∃ z, z = s₁.setTop (entryFrame m #[(.ref ls), (.int j)] 2) := ⟨_, rfl⟩
  rw [← hS0]
  have c0 : SS p e below S0 (s₁.setTop (mkF m 0 #[vr ls, vi j] [])) := by
    rw [hS0]; exact castTop (ef_rmGet m ls j) (Steps.refl _)
  have c1 : SS p e below S0 (s₁.setTop (mkF m 1 #[vr ls, vi j] [(.ref ls)])) := c0.trans (by
    show SS p e below (s₁.setTop (mkF m 0 #[vr ls, vi j] [])) _
    refine XS.aloadN X0.here hx rfl (hb hby D4_0) rfl rfl ?_
    exact Steps.refl _)
  obtain ⟨T2, X2, e2, st2⟩ := getF X0 hx hZ hown (host := "") (Or.inl (ww hw 123 rfl)) Via.refl e0 FL (g := (mkF m 1 #[vr ls, vi j] [(.ref ls)])) rfl rfl (hb hby D4_1)
  have c3 : SS p e below S0 (T2.setTop (mkF m 4 #[vr ls, vi j] [(.ref ea)])) := c1.trans (st2 _ (Steps.refl _))
  have c4 : SS p e below S0 (T2.setTop (mkF m 5 #[vr ls, vi j] [(.int j), (.ref ea)])) := c3.trans (by
    show SS p e below (T2.setTop (mkF m 4 #[vr ls, vi j] [(.ref ea)])) _
    refine XS.iloadN X2.here hx rfl (hb hby D4_4) rfl ?_
    exact Steps.refl _)
  obtain ⟨cl5, Ar5, -, S5, -, Ha5, -⟩ := id VL
  have hin5 := inb_of (j := j) S5 hj
  have hat5 := Ha5.at hin5 hq
  have c6 : SS p e below S0 (T2.setTop (mkF m 6 #[vr ls, vi j] [(.ref q)])) := c4.trans (by
    show SS p e below (T2.setTop (mkF m 5 #[vr ls, vi j] [(.int j), (.ref ea)])) _
    refine X2.aaload hx (j := j) (v := (.ref q)) (by rw [e2]; exact Ar5.1) (State.isArrayOf_alike hZ.alike Ar5.2.1) rfl Ar5.2.2 hin5 hat5 (g := (mkF m 5 #[vr ls, vi j] [(.int j), (.ref ea)])) rfl rfl (hb hby D4_5) _ ?_
    exact Steps.refl _)
  obtain ⟨fs, hr, hrun, hended, hW, hsame⟩ := X2.leave (v := some (.ref q)) (fun h => by rw [Bd.returns] at h; cases h)
  refine ⟨_, _, c6.trans (retOut X2 hx Bd.returns rfl (Or.inr (Or.inr (Or.inr (Or.inr ⟨rfl, rfl, rfl⟩)))) (hb hby D4_6) hr), hrun, hended, _, _, rfl, ?_, ⟨_, rfl⟩, hW, hsame.mono (by first | decide | exact Nat.le_of_ble_eq_true rfl) (by first | decide | exact Nat.le_of_ble_eq_true rfl)⟩
  show QRef Z q h0 n0 _ T2.heap _
  rw [e2]
  exact ⟨rfl, N0, rfl⟩

def QII (Z : State) (x ls : Addr) (zs : Int32) (h0 : Heap) (n0 : Nat) (v : Option Value) (h : Heap) (L : List Loc) : Prop := v = none ∧ Fr n0 L ∧ Keep h0 h [x] ∧ Exa Z h x "java/util/ImmutableCollections$ListItr" ∧ Fld Z h x "java/util/ImmutableCollections$ListItr" "list" "Ljava/util/List;" (.ref ls) ∧ Fld Z h x "java/util/ImmutableCollections$ListItr" "size" "I" (.int zs) ∧ Fld Z h x "java/util/ImmutableCollections$ListItr" "cursor" "I" (.int 0)

theorem D5_0 : decode jdk_53_method_1_code 0 = .ok (.aload_n 0, 1) := by decide +kernel
theorem D5_1 : decode jdk_53_method_1_code 1 = .ok (.invokespecial 1, 3) := by decide +kernel
theorem D5_4 : decode jdk_53_method_1_code 4 = .ok (.aload_n 0, 1) := by decide +kernel
theorem D5_5 : decode jdk_53_method_1_code 5 = .ok (.aload_n 1, 1) := by decide +kernel
theorem D5_6 : decode jdk_53_method_1_code 6 = .ok (.putfield 7, 3) := by decide +kernel
theorem D5_9 : decode jdk_53_method_1_code 9 = .ok (.aload_n 0, 1) := by decide +kernel
theorem D5_10 : decode jdk_53_method_1_code 10 = .ok (.iload_n 2, 1) := by decide +kernel
theorem D5_11 : decode jdk_53_method_1_code 11 = .ok (.putfield 13, 3) := by decide +kernel
theorem D5_14 : decode jdk_53_method_1_code 14 = .ok (.aload_n 0, 1) := by decide +kernel
theorem D5_15 : decode jdk_53_method_1_code 15 = .ok (.iconst 0, 1) := by decide +kernel
theorem D5_16 : decode jdk_53_method_1_code 16 = .ok (.putfield 17, 3) := by decide +kernel
theorem D5_19 : decode jdk_53_method_1_code 19 = .ok (.aload_n 0, 1) := by decide +kernel
theorem D5_20 : decode jdk_53_method_1_code 20 = .ok (.iconst 0, 1) := by decide +kernel
theorem D5_21 : decode jdk_53_method_1_code 21 = .ok (.putfield 20, 3) := by decide +kernel
theorem D5_24 : decode jdk_53_method_1_code 24 = .ok (.return_, 1) := by decide +kernel
theorem pn_java_util_ImmutableCollections_ListItr : plainName "java/util/ImmutableCollections$ListItr" = true := by first | (simp [plainName, overriddenIn]; done) | decide +kernel
theorem ef_rmII (m : MethodId) (x0 : Addr) (x1 : Addr) (x2 : Int32) : entryFrame m #[(.ref x0), (.ref x1), (.int x2)] 3 = mkF m 0 #[.val (.ref x0), .val (.ref x1), .val (.int x2)] [] := by first | (simp [entryFrame, mkF, argsToLocals, Value.category]; done) | rfl
set_option maxRecDepth 65536 in
set_option maxHeartbeats 40000000 in
theorem rmII (l : Launch) (Z : State) (a0 : Array Value) (hw : ∀ d ∈ tables_1, d.before a0 Z = true) (ws : List Jvm.Cond) (x ls : Addr) (zs : Int32) (h0 : Heap) (n0 : Nat) (Z0 : n0 ≤ h0.size) (g_x : n0 ≤ x) (Ex : Exa Z h0 x "java/util/ImmutableCollections$ListItr") (F0 : Fld Z h0 x "java/util/ImmutableCollections$ListItr" "list" "Ljava/util/List;" .null) (F1 : Fld Z h0 x "java/util/ImmutableCollections$ListItr" "size" "I" (.int 0)) (F2 : Fld Z h0 x "java/util/ImmutableCollections$ListItr" "cursor" "I" (.int 0)) (F3 : Fld Z h0 x "java/util/ImmutableCollections$ListItr" "isListIterator" "Z" (.int 0)) :
    MetFree l (⟨"java/util/ImmutableCollections$ListItr", "<init>", "(Ljava/util/List;I)V"⟩ : MethodName) (head1 (Jvm.Cond.code (⟨"java/util/ImmutableCollections$ListItr", "<init>", "(Ljava/util/List;I)V"⟩ : MethodName) jdk_53_method_1_code 3 (none) :: ws) ({ frames := 1, cells := 0, slots := 0, locals := 12 } : Room)) (fun aa U => aa = #[(.ref x), (.ref ls), (.int zs)] ∧ Z.Warmed39 U.vm ∧ U.heap = h0) (fun _ _ _ _ _ => True) (fun _ U o U' => ∃ v L, o = .returned v ∧ QII Z x ls zs h0 n0 v U'.heap L ∧ FrameEnd U o U' L ({ frames := 1, cells := 0, slots := 0, locals := 12 } : Room).cells ({ frames := 1, cells := 0, slots := 0, locals := 12 } : Room).slots) := by
  refine MetFree.of_bodySF (plainFor_of_name pn_java_util_ImmutableCollections_ListItr) hisR ?_
  intro p e s m args below meth c s₁ Bd hml0 hP hK
  obtain ⟨rfl, hZ, hh⟩ := hP
  have hx := Bd.exec
  have hby := Bd.bytes
  have hml : c.maxLocals = 3 := hml0
  have hown : s.vm.findClass "java/util/ImmutableCollections$ListItr" = some m.cls := findClass_of_methodNamed Bd.named
  have hnm := (name_of_methodNamed Bd.named Bd.method).1
  have X0 : Stand p l e ({ frames := 1, cells := 0, slots := 0, locals := 12 } : Room) s m #[(.ref x), (.ref ls), (.int zs)] below meth c s₁ [] 0 0 := Stand.of_body Bd
  have e0 : s₁.heap = h0 := by rw [← hh, Bd.state]; rfl
  have N0 := Fr.nil n0
  have K0 := Keep.refl h0 [x]
  obtain ⟨S0, hS0⟩ : ∃ z, z = s₁.setTop (entryFrame m #[(.ref x), (.ref ls), (.int zs)] 3) := ⟨_, rfl⟩
  rw [← hS0]
  have c0 : SS p e below S0 (s₁.setTop (mkF m 0 #[vr x, vr ls, vi zs] [])) := by
    rw [hS0]; exact castTop (ef_rmII m x ls zs) (Steps.refl _)
  have c1 : SS p e below S0 (s₁.setTop (mkF m 1 #[vr x, vr ls, vi zs] [(.ref x)])) := c0.trans (by
    show SS p e below (s₁.setTop (mkF m 0 #[vr x, vr ls, vi zs] [])) _
    refine XS.aloadN X0.here hx rfl (hb hby D5_0) rfl rfl ?_
    exact Steps.refl _)
  obtain ⟨T2, X2, e2, st2⟩ := initO X0 hx hZ hown (ww hw 129 rfl) (ww hw 16 rfl) (ww hw 17 rfl) e0 (g := (mkF m 1 #[vr x, vr ls, vi zs] [(.ref x)])) rfl (by rw [hml]; rfl) rfl (hb hby D5_1) (by decide) (W := 0) (by show 2 * 0 + _ ≤ _; exact Nat.le_of_eq rfl) (by decide)
  have c3 : SS p e below S0 (T2.setTop (mkF m 4 #[vr x, vr ls, vi zs] [])) := c1.trans (st2 _ (Steps.refl _))
  have c4 : SS p e below S0 (T2.setTop (mkF m 6 #[vr x, vr ls, vi zs] [(.ref ls), (.ref x)])) := c3.trans (by
    show SS p e below (T2.setTop (mkF m 4 #[vr x, vr ls, vi zs] [])) _
    refine XS.aloadN X2.here hx rfl (hb hby D5_4) rfl rfl ?_
    refine XS.aloadN X2.here hx rfl (hb hby D5_5) rfl rfl ?_
    exact Steps.refl _)
  obtain ⟨T5, h5, X5, e5, W5, st5⟩ := putF X2 hx hZ hown (host := "") (Or.inl (ww hw 130 rfl)) Via.refl e2 F0 Ex (Or.inr ⟨(ww hw 131 rfl), rfl, hnm⟩) (ww hw 114 rfl) (ty := (.object "java/util/List")) (by decide) rfl rfl (g := (mkF m 6 #[vr x, vr ls, vi zs] [(.ref ls), (.ref x)])) rfl rfl (hb hby D5_6)
  have c6 : SS p e below S0 (T5.setTop (mkF m 9 #[vr x, vr ls, vi zs] [])) := c4.trans (st5 _ (Steps.refl _))
  have N5 := Fr.snoc X5 N0 g_x
  have Fw5 := F0.same W5
  have z5 : n0 ≤ h5.size := Nat.le_trans Z0 (Keep.of_wr W5).1
  have K5 := K0.wr W5 (Or.inl (by simp))
  have c7 : SS p e below S0 (T5.setTop (mkF m 11 #[vr x, vr ls, vi zs] [(.int zs), (.ref x)])) := c6.trans (by
    show SS p e below (T5.setTop (mkF m 9 #[vr x, vr ls, vi zs] [])) _
    refine XS.aloadN X5.here hx rfl (hb hby D5_9) rfl rfl ?_
    refine XS.iloadN X5.here hx rfl (hb hby D5_10) rfl ?_
    exact Steps.refl _)
  obtain ⟨T8, h8, X8, e8, W8, st8⟩ := putF X5 hx hZ hown (host := "") (Or.inl (ww hw 132 rfl)) Via.refl e5 (F1.other W5 (Or.inr (slot_ne (Or.inr (ww hw 133 rfl)) (Or.inr (ww hw 131 rfl)) (by decide) (t := .int) (t' := (.object "java/util/List")) (by decide) (by decide)))) (Ex.wr W5) (Or.inr ⟨(ww hw 133 rfl), rfl, hnm⟩) (ww hw 114 rfl) (ty := .int) (by decide) rfl rfl (g := (mkF m 11 #[vr x, vr ls, vi zs] [(.int zs), (.ref x)])) rfl rfl (hb hby D5_11)
  have c9 : SS p e below S0 (T8.setTop (mkF m 14 #[vr x, vr ls, vi zs] [])) := c7.trans (st8 _ (Steps.refl _))
  have N8 := Fr.snoc X8 N5 g_x
  have Fw8 := (F1.other W5 (Or.inr (slot_ne (Or.inr (ww hw 133 rfl)) (Or.inr (ww hw 131 rfl)) (by decide) (t := .int) (t' := (.object "java/util/List")) (by decide) (by decide)))).same W8
  have z8 : n0 ≤ h8.size := Nat.le_trans z5 (Keep.of_wr W8).1
  have K8 := K5.wr W8 (Or.inl (by simp))
  have c10 : SS p e below S0 (T8.setTop (mkF m 16 #[vr x, vr ls, vi zs] [(.int 0), (.ref x)])) := c9.trans (by
    show SS p e below (T8.setTop (mkF m 14 #[vr x, vr ls, vi zs] [])) _
    refine XS.aloadN X8.here hx rfl (hb hby D5_14) rfl rfl ?_
    refine XS.iconst X8.here hx rfl (hb hby D5_15) ?_
    exact Steps.refl _)
  obtain ⟨T11, h11, X11, e11, W11, st11⟩ := putF X8 hx hZ hown (host := "") (Or.inl (ww hw 134 rfl)) Via.refl e8 ((F2.other W5 (Or.inr (slot_ne (Or.inl (ww hw 135 rfl)) (Or.inr (ww hw 131 rfl)) (by decide) (t := .int) (t' := (.object "java/util/List")) (by decide) (by decide)))).other W8 (Or.inr (slot_ne (Or.inl (ww hw 135 rfl)) (Or.inr (ww hw 133 rfl)) (by decide) (t := .int) (t' := .int) (by decide) (by decide)))) ((Ex.wr W5).wr W8) (Or.inl (ww hw 135 rfl)) (ww hw 114 rfl) (ty := .int) (by decide) rfl rfl (g := (mkF m 16 #[vr x, vr ls, vi zs] [(.int 0), (.ref x)])) rfl rfl (hb hby D5_16)
  have c12 : SS p e below S0 (T11.setTop (mkF m 19 #[vr x, vr ls, vi zs] [])) := c10.trans (st11 _ (Steps.refl _))
  have N11 := Fr.snoc X11 N8 g_x
  have Fw11 := ((F2.other W5 (Or.inr (slot_ne (Or.inl (ww hw 135 rfl)) (Or.inr (ww hw 131 rfl)) (by decide) (t := .int) (t' := (.object "java/util/List")) (by decide) (by decide)))).other W8 (Or.inr (slot_ne (Or.inl (ww hw 135 rfl)) (Or.inr (ww hw 133 rfl)) (by decide) (t := .int) (t' := .int) (by decide) (by decide)))).same W11
  have z11 : n0 ≤ h11.size := Nat.le_trans z8 (Keep.of_wr W11).1
  have K11 := K8.wr W11 (Or.inl (by simp))
  have c13 : SS p e below S0 (T11.setTop (mkF m 21 #[vr x, vr ls, vi zs] [(.int 0), (.ref x)])) := c12.trans (by
    show SS p e below (T11.setTop (mkF m 19 #[vr x, vr ls, vi zs] [])) _
    refine XS.aloadN X11.here hx rfl (hb hby D5_19) rfl rfl ?_
    refine XS.iconst X11.here hx rfl (hb hby D5_20) ?_
    exact Steps.refl _)
  obtain ⟨T14, h14, X14, e14, W14, st14⟩ := putFN X11 hx hZ hown (ww hw 136 rfl) Via.refl e11 (((F3.other W5 (Or.inr (slot_ne (Or.inr (ww hw 137 rfl)) (Or.inr (ww hw 131 rfl)) (by decide) (t := .boolean) (t' := (.object "java/util/List")) (by decide) (by decide)))).other W8 (Or.inr (slot_ne (Or.inr (ww hw 137 rfl)) (Or.inr (ww hw 133 rfl)) (by decide) (t := .boolean) (t' := .int) (by decide) (by decide)))).other W11 (Or.inr (slot_ne (Or.inr (ww hw 137 rfl)) (Or.inl (ww hw 135 rfl)) (by decide) (t := .boolean) (t' := .int) (by decide) (by decide)))) (((Ex.wr W5).wr W8).wr W11) (Or.inr ⟨(ww hw 137 rfl), rfl, hnm⟩) (ww hw 114 rfl) (ty := .boolean) (v' := (.int 0)) (by decide) rfl rfl (g := (mkF m 21 #[vr x, vr ls, vi zs] [(.int 0), (.ref x)])) rfl rfl (hb hby D5_21)
  have c15 : SS p e below S0 (T14.setTop (mkF m 24 #[vr x, vr ls, vi zs] [])) := c13.trans (st14 _ (Steps.refl _))
  have N14 := Fr.snoc X14 N11 g_x
  have Fw14 := (((F3.other W5 (Or.inr (slot_ne (Or.inr (ww hw 137 rfl)) (Or.inr (ww hw 131 rfl)) (by decide) (t := .boolean) (t' := (.object "java/util/List")) (by decide) (by decide)))).other W8 (Or.inr (slot_ne (Or.inr (ww hw 137 rfl)) (Or.inr (ww hw 133 rfl)) (by decide) (t := .boolean) (t' := .int) (by decide) (by decide)))).other W11 (Or.inr (slot_ne (Or.inr (ww hw 137 rfl)) (Or.inl (ww hw 135 rfl)) (by decide) (t := .boolean) (t' := .int) (by decide) (by decide)))).same W14
  have z14 : n0 ≤ h14.size := Nat.le_trans z11 (Keep.of_wr W14).1
  have K14 := K11.wr W14 (Or.inl (by simp))
  obtain ⟨fs, hr, hrun, hended, hW, hsame⟩ := X14.leave (v := none) (fun h => rfl)
  refine ⟨_, _, c15.trans (X14.returnOut hx Bd.returns (hb hby D5_24) hr), hrun, hended, _, _, rfl, ?_, ⟨_, rfl⟩, hW, hsame.mono (by first | decide | exact Nat.le_of_ble_eq_true rfl) (by first | decide | exact Nat.le_of_ble_eq_true rfl)⟩
  show QII Z x ls zs h0 n0 _ T14.heap _
  rw [e14]
  exact ⟨rfl, N14, K14, ((((Ex.wr W5).wr W8).wr W11).wr W14), (((Fw5.other W8 (Or.inr (slot_ne (Or.inr (ww hw 131 rfl)) (Or.inr (ww hw 133 rfl)) (by decide) (t := (.object "java/util/List")) (t' := .int) (by decide) (by decide)))).other W11 (Or.inr (slot_ne (Or.inr (ww hw 131 rfl)) (Or.inl (ww hw 135 rfl)) (by decide) (t := (.object "java/util/List")) (t' := .int) (by decide) (by decide)))).other W14 (Or.inr (slot_ne (Or.inr (ww hw 131 rfl)) (Or.inr (ww hw 137 rfl)) (by decide) (t := (.object "java/util/List")) (t' := .boolean) (by decide) (by decide)))), ((Fw8.other W11 (Or.inr (slot_ne (Or.inr (ww hw 133 rfl)) (Or.inl (ww hw 135 rfl)) (by decide) (t := .int) (t' := .int) (by decide) (by decide)))).other W14 (Or.inr (slot_ne (Or.inr (ww hw 133 rfl)) (Or.inr (ww hw 137 rfl)) (by decide) (t := .int) (t' := .boolean) (by decide) (by decide)))), (Fw11.other W14 (Or.inr (slot_ne (Or.inl (ww hw 135 rfl)) (Or.inr (ww hw 137 rfl)) (by decide) (t := .int) (t' := .boolean) (by decide) (by decide))))⟩

def QIt (Z : State) (ls : Addr) (h0 : Heap) (n0 : Nat) (v : Option Value) (h : Heap) (L : List Loc) : Prop := ∃ x : Addr, v = some (.ref x) ∧ Fr n0 L ∧ Keep h0 h [] ∧ h0.size ≤ x ∧ Exa Z h x "java/util/ImmutableCollections$ListItr" ∧ Fld Z h x "java/util/ImmutableCollections$ListItr" "list" "Ljava/util/List;" (.ref ls) ∧ Fld Z h x "java/util/ImmutableCollections$ListItr" "size" "I" (.int 5) ∧ Fld Z h x "java/util/ImmutableCollections$ListItr" "cursor" "I" (.int 0)

theorem D6_0 : decode jdk_46_method_10_code 0 = .ok (.new 61, 3) := by decide +kernel
theorem D6_3 : decode jdk_46_method_10_code 3 = .ok (.dup, 1) := by decide +kernel
theorem D6_4 : decode jdk_46_method_10_code 4 = .ok (.aload_n 0, 1) := by decide +kernel
theorem D6_5 : decode jdk_46_method_10_code 5 = .ok (.aload_n 0, 1) := by decide +kernel
theorem pd_ocI : parseMethodDescriptor "()I" = some ⟨[], some .int⟩ := by decide +kernel
theorem D6_6 : decode jdk_46_method_10_code 6 = .ok (.invokevirtual 13, 3) := by decide +kernel
theorem pd_oLjavasutilsListeIcV : parseMethodDescriptor "(Ljava/util/List;I)V" = some ⟨[(.object "java/util/List"), .int], none⟩ := by decide +kernel
theorem D6_9 : decode jdk_46_method_10_code 9 = .ok (.invokespecial 63, 3) := by decide +kernel
theorem D6_12 : decode jdk_46_method_10_code 12 = .ok (.areturn, 1) := by decide +kernel
theorem pn_java_util_ImmutableCollections_AbstractImmutableList : plainName "java/util/ImmutableCollections$AbstractImmutableList" = true := by first | (simp [plainName, overriddenIn]; done) | decide +kernel
theorem ef_rmIt (m : MethodId) (x0 : Addr) : entryFrame m #[(.ref x0)] 1 = mkF m 0 #[.val (.ref x0)] [] := by first | (simp [entryFrame, mkF, argsToLocals, Value.category]; done) | rfl
set_option maxRecDepth 65536 in
set_option maxHeartbeats 40000000 in
theorem rmIt (l : Launch) (Z : State) (a0 : Array Value) (hw : ∀ d ∈ tables_1, d.before a0 Z = true) (ws : List Jvm.Cond) (ls ea q0 q1 q2 q3 q4 : Addr) (ke : ClassId) (h0 : Heap) (n0 : Nat) (Z0 : n0 ≤ h0.size) (El : Exa Z h0 ls "java/util/ImmutableCollections$ListN") (FL : Fld Z h0 ls "java/util/ImmutableCollections$ListN" "elements" "[Ljava/lang/Object;" (.ref ea)) (VL : Arv Z h0 ea ke (.object "java/lang/Object") (5 : Int32) [.ref q0, .ref q1, .ref q2, .ref q3, .ref q4] .null) :
    MetFree l (⟨"java/util/ImmutableCollections$AbstractImmutableList", "iterator", "()Ljava/util/Iterator;"⟩ : MethodName) (head1 (Jvm.Cond.code (⟨"java/util/ImmutableCollections$AbstractImmutableList", "iterator", "()Ljava/util/Iterator;"⟩ : MethodName) jdk_46_method_10_code 1 (some (.object "java/util/Iterator")) :: ws) ({ frames := 2, cells := 1, slots := 4, locals := 27 } : Room)) (fun aa U => aa = #[(.ref ls)] ∧ Z.Warmed39 U.vm ∧ U.heap = h0) (fun _ _ _ _ _ => True) (fun _ U o U' => ∃ v L, o = .returned v ∧ QIt Z ls h0 n0 v U'.heap L ∧ FrameEnd U o U' L ({ frames := 2, cells := 1, slots := 4, locals := 27 } : Room).cells ({ frames := 2, cells := 1, slots := 4, locals := 27 } : Room).slots) := by
  refine MetFree.of_bodySF (plainFor_of_name pn_java_util_ImmutableCollections_AbstractImmutableList) hisR ?_
  intro p e s m args below meth c s₁ Bd hml0 hP hK
  obtain ⟨rfl, hZ, hh⟩ := hP
  have hx := Bd.exec
  have hby := Bd.bytes
  have hml : c.maxLocals = 1 := hml0
  have hown : s.vm.findClass "java/util/ImmutableCollections$AbstractImmutableList" = some m.cls := findClass_of_methodNamed Bd.named
  have hnm := (name_of_methodNamed Bd.named Bd.method).1
  have X0 : Stand p l e ({ frames := 2, cells := 1, slots := 4, locals := 27 } : Room) s m #[(.ref ls)] below meth c s₁ [] 0 0 := Stand.of_body Bd
  have e0 : s₁.heap = h0 := by rw [← hh, Bd.state]; rfl
  have N0 := Fr.nil n0
  have K0 := Keep.refl h0 []
  obtain ⟨S0, hS0⟩ : ∃ z, z = s₁.setTop (entryFrame m #[(.ref ls)] 1) := ⟨_, rfl⟩
  rw [← hS0]
  have c0 : SS p e below S0 (s₁.setTop (mkF m 0 #[vr ls] [])) := by
    rw [hS0]; exact castTop (ef_rmIt m ls) (Steps.refl _)
  obtain ⟨T1, h1, X1, e1, E1, A1, D1, -, st1⟩ := newO X0 hx hZ hown (ww hw 113 rfl) (ww hw 114 rfl) (ww hw 115 rfl) e0 (g := (mkF m 0 #[vr ls] [])) rfl (hb hby D6_0) (by decide) (by decide)
  obtain ⟨b1, g1⟩ : ∃ z, z = h0.size := ⟨_, rfl⟩
  rw [← g1] at A1 D1 st1
  have c2 : SS p e below S0 (T1.setTop (mkF m 3 #[vr ls] [(.ref b1)])) := c0.trans (st1 _ (Steps.refl _))
  have z1 : n0 ≤ h1.size := Nat.le_trans Z0 E1.1
  have K1 := K0.ext E1
  have lt_b1 : b1 < h1.size := A1.lt
  have F1_list : Fld Z h1 b1 "java/util/ImmutableCollections$ListItr" "list" "Ljava/util/List;" .null := D1 (Or.inr (ww hw 131 rfl)) (ty := (.object "java/util/List")) (by decide)
  have F1_size : Fld Z h1 b1 "java/util/ImmutableCollections$ListItr" "size" "I" (.int 0) := D1 (Or.inr (ww hw 133 rfl)) (ty := .int) (by decide)
  have F1_cursor : Fld Z h1 b1 "java/util/ImmutableCollections$ListItr" "cursor" "I" (.int 0) := D1 (Or.inl (ww hw 135 rfl)) (ty := .int) (by decide)
  have F1_isListIterator : Fld Z h1 b1 "java/util/ImmutableCollections$ListItr" "isListIterator" "Z" (.int 0) := D1 (Or.inr (ww hw 137 rfl)) (ty := .boolean) (by decide)
  have c3 : SS p e below S0 (T1.setTop (mkF m 6 #[vr ls] [(.ref ls), (.ref ls), (.ref b1), (.ref b1)])) := c2.trans (by
    show SS p e below (T1.setTop (mkF m 3 #[vr ls] [(.ref b1)])) _
    refine XS.dup X1.here hx rfl (hb hby D6_3) rfl rfl ?_
    refine XS.aloadN X1.here hx rfl (hb hby D6_4) rfl rfl ?_
    refine XS.aloadN X1.here hx rfl (hb hby D6_5) rfl rfl ?_
    exact Steps.refl _)
  obtain ⟨cq4, kq4, q4a, q4b, q4c⟩ := isOf hZ e1 (El.ext E1)
  obtain ⟨_, _, ⟨T4, L4, kk4, nn4⟩, -, X4, ⟨Lc4, hQ4, l4, y4, z4⟩, st4⟩ := X1.virtualBackUp hx (x := (⟨"java/util/ImmutableCollections$AbstractImmutableList", "size", "()I"⟩ : MethodName)) (y := (⟨"java/util/ImmutableCollections$ListN", "size", "()I"⟩ : MethodName)) hown (mvT hZ (ww hw 116 rfl)) (mvT hZ (ww hw 117 rfl)) (mvT hZ (ww hw 118 rfl)) (by decide) (mvT hZ (ww hw 119 rfl)) (mvT hZ (ww hw 120 rfl)) (backOf (W := 3) (rmSize l Z a0 hw [] ls ea q0 q1 q2 q3 q4 ke h1 n0 z1 (FL.ext E1) (VL.ext E1)) hZ (ww hw 122 rfl) (ww hw 121 rfl) (by decide) (by decide)) q4a q4c (g := (mkF m 6 #[vr ls] [(.ref ls), (.ref ls), (.ref b1), (.ref b1)])) rfl (by rw [hml]; rfl) (Steps.refl _) (argsL := []) (rest := [(.ref ls), (.ref b1), (.ref b1)]) (lenOf pd_ocI rfl) rfl (by show 2 * 0 + _ ≤ _; exact Nat.le_of_eq rfl) (hb hby D6_6) (fun _ _ => ⟨rfl, e1, (by decide : 1 + 0 ≤ _), (by decide : 4 + 0 ≤ _)⟩)
  dsimp only [Pt.U, Pt.locs, Pt.cells, Pt.slots] at X4 l4 y4 z4 st4 hQ4
  subst l4 y4 z4
  obtain ⟨rfl, Nq4, eq4⟩ := hQ4
  have c5 : SS p e below S0 (T4.setTop (mkF m 9 #[vr ls] [(.int 5), (.ref ls), (.ref b1), (.ref b1)])) := c3.trans (st4)
  have N4 := Fr.app N0 Nq4
  obtain ⟨_, _, ⟨T6, L6, kk6, nn6⟩, -, X6, ⟨Lc6, hQ6, l6, y6, z6⟩, st6⟩ := X4.specialBack hx (y := (⟨"java/util/ImmutableCollections$ListItr", "<init>", "(Ljava/util/List;I)V"⟩ : MethodName)) rfl hown (mvT hZ (ww hw 125 rfl)) (mvT hZ (ww hw 126 rfl)) (mvT hZ (ww hw 128 rfl)) (by decide) (backOf (W := 1) (rmII l Z a0 hw [] b1 ls (5 : Int32) h1 n0 z1 (Nat.le_trans Z0 (Nat.le_trans K0.1 (Nat.le_of_eq g1.symm))) A1 F1_list F1_size F1_cursor F1_isListIterator) hZ (ww hw 128 rfl) (ww hw 115 rfl) (by decide) (by decide)) (g := (mkF m 9 #[vr ls] [(.int 5), (.ref ls), (.ref b1), (.ref b1)])) rfl (by rw [hml]; rfl) (Steps.refl _) (a := b1) (argsL := [(.ref ls), (.int 5)]) (rest := [(.ref b1)]) (lenOf pd_oLjavasutilsListeIcV rfl) rfl (by show 2 * 0 + _ ≤ _; exact Nat.le_of_eq rfl) (hb hby D6_9) (fun _ _ => ⟨rfl, eq4, (by decide : 1 + 0 ≤ _), (by decide : 4 + 0 ≤ _)⟩)
  dsimp only [Pt.U, Pt.locs, Pt.cells, Pt.slots] at X6 l6 y6 z6 st6 hQ6
  subst l6 y6 z6
  obtain ⟨rfl, Nq6, Kq6, Ei6, Fl6, Fs6, Fc6⟩ := hQ6
  have c7 : SS p e below S0 (T6.setTop (mkF m 12 #[vr ls] [(.ref b1)])) := c5.trans (st6)
  have N6 := Fr.app N4 Nq6
  have z6 : n0 ≤ T6.heap.size := Nat.le_trans z1 Kq6.1
  have K6 := K1.trans Kq6 (allS (Or.inr (Nat.le_trans K0.1 (Nat.le_of_eq g1.symm))) all0)
  obtain ⟨fs, hr, hrun, hended, hW, hsame⟩ := X6.leave (v := some (.ref b1)) (fun h => by rw [Bd.returns] at h; cases h)
  refine ⟨_, _, c7.trans (retOut X6 hx Bd.returns rfl (Or.inr (Or.inr (Or.inr (Or.inr ⟨rfl, rfl, rfl⟩)))) (hb hby D6_12) hr), hrun, hended, _, _, rfl, ?_, ⟨_, rfl⟩, hW, hsame.mono (by first | decide | exact Nat.le_of_ble_eq_true rfl) (by first | decide | exact Nat.le_of_ble_eq_true rfl)⟩
  show QIt Z ls h0 n0 _ T6.heap _
  exact ⟨_, rfl, N6, K6, (Nat.le_trans K0.1 (Nat.le_of_eq g1.symm)), Ei6, Fl6, Fs6, Fc6⟩

theorem D7_0 : decode jdk_53_method_3_code 0 = .ok (.aload_n 0, 1) := by decide +kernel
theorem D7_1 : decode jdk_53_method_3_code 1 = .ok (.getfield 17, 3) := by decide +kernel
theorem D7_4 : decode jdk_53_method_3_code 4 = .ok (.aload_n 0, 1) := by decide +kernel
theorem D7_5 : decode jdk_53_method_3_code 5 = .ok (.getfield 13, 3) := by decide +kernel
theorem D7_8 : decode jdk_53_method_3_code 8 = .ok (.if_icmp .eq 7, 3) := by decide +kernel
theorem D7_15 : decode jdk_53_method_3_code 15 = .ok (.iconst 0, 1) := by decide +kernel
theorem D7_16 : decode jdk_53_method_3_code 16 = .ok (.ireturn, 1) := by decide +kernel
theorem D7_11 : decode jdk_53_method_3_code 11 = .ok (.iconst 1, 1) := by decide +kernel
theorem D7_12 : decode jdk_53_method_3_code 12 = .ok (.goto 4, 3) := by decide +kernel
theorem ef_rmHas (m : MethodId) (x0 : Addr) : entryFrame m #[(.ref x0)] 1 = mkF m 0 #[.val (.ref x0)] [] := by first | (simp [entryFrame, mkF, argsToLocals, Value.category]; done) | rfl
set_option maxRecDepth 65536 in
set_option maxHeartbeats 40000000 in
theorem rmHas (l : Launch) (Z : State) (a0 : Array Value) (hw : ∀ d ∈ tables_1, d.before a0 Z = true) (ws : List Jvm.Cond) (x : Addr) (j z : Int32) (h0 : Heap) (n0 : Nat) (Z0 : n0 ≤ h0.size) (Fc : Fld Z h0 x "java/util/ImmutableCollections$ListItr" "cursor" "I" (.int j)) (Fs : Fld Z h0 x "java/util/ImmutableCollections$ListItr" "size" "I" (.int z)) :
    MetFree l (⟨"java/util/ImmutableCollections$ListItr", "hasNext", "()Z"⟩ : MethodName) (head1 (Jvm.Cond.code (⟨"java/util/ImmutableCollections$ListItr", "hasNext", "()Z"⟩ : MethodName) jdk_53_method_3_code 1 (some .boolean) :: ws) ({ frames := 0, cells := 0, slots := 0, locals := 0 } : Room)) (fun aa U => aa = #[(.ref x)] ∧ Z.Warmed39 U.vm ∧ U.heap = h0) (fun _ _ _ _ _ => True) (fun _ U o U' => ∃ v L, o = .returned v ∧ QInt Z (if j = z then 0 else 1) h0 n0 v U'.heap L ∧ FrameEnd U o U' L ({ frames := 0, cells := 0, slots := 0, locals := 0 } : Room).cells ({ frames := 0, cells := 0, slots := 0, locals := 0 } : Room).slots) := by
  refine MetFree.of_bodySF (plainFor_of_name pn_java_util_ImmutableCollections_ListItr) hisR ?_
  intro p e s m args below meth c s₁ Bd hml0 hP hK
  obtain ⟨rfl, hZ, hh⟩ := hP
  have hx := Bd.exec
  have hby := Bd.bytes
  have hml : c.maxLocals = 1 := hml0
  have hown : s.vm.findClass "java/util/ImmutableCollections$ListItr" = some m.cls := findClass_of_methodNamed Bd.named
  have hnm := (name_of_methodNamed Bd.named Bd.method).1
  have X0 : Stand p l e ({ frames := 0, cells := 0, slots := 0, locals := 0 } : Room) s m #[(.ref x)] below meth c s₁ [] 0 0 := Stand.of_body Bd
  have e0 : s₁.heap = h0 := by rw [← hh, Bd.state]; rfl
  have N0 := Fr.nil n0
  have K0 := Keep.refl h0 []
  obtain ⟨S0, hS0⟩ : ∃ z, z = s₁.setTop (entryFrame m #[(.ref x)] 1) := ⟨_, rfl⟩
  rw [← hS0]
  have c0 : SS p e below S0 (s₁.setTop (mkF m 0 #[vr x] [])) := by
    rw [hS0]; exact castTop (ef_rmHas m x) (Steps.refl _)
  have c1 : SS p e below S0 (s₁.setTop (mkF m 1 #[vr x] [(.ref x)])) := c0.trans (by
    show SS p e below (s₁.setTop (mkF m 0 #[vr x] [])) _
    refine XS.aloadN X0.here hx rfl (hb hby D7_0) rfl rfl ?_
    exact Steps.refl _)
  obtain ⟨T2, X2, e2, st2⟩ := getF X0 hx hZ hown (host := "") (Or.inl (ww hw 134 rfl)) Via.refl e0 Fc (g := (mkF m 1 #[vr x] [(.ref x)])) rfl rfl (hb hby D7_1)
  have c3 : SS p e below S0 (T2.setTop (mkF m 4 #[vr x] [(.int j)])) := c1.trans (st2 _ (Steps.refl _))
  have c4 : SS p e below S0 (T2.setTop (mkF m 5 #[vr x] [(.ref x), (.int j)])) := c3.trans (by
    show SS p e below (T2.setTop (mkF m 4 #[vr x] [(.int j)])) _
    refine XS.aloadN X2.here hx rfl (hb hby D7_4) rfl rfl ?_
    exact Steps.refl _)
  obtain ⟨T5, X5, e5, st5⟩ := getF X2 hx hZ hown (host := "") (Or.inl (ww hw 132 rfl)) Via.refl e2 Fs (g := (mkF m 5 #[vr x] [(.ref x), (.int j)])) rfl rfl (hb hby D7_5)
  have c6 : SS p e below S0 (T5.setTop (mkF m 8 #[vr x] [(.int z), (.int j)])) := c4.trans (st5 _ (Steps.refl _))
  by_cases hq7 : j = z
  · have c8 : SS p e below S0 (T5.setTop (mkF m 16 #[vr x] [(.int 0)])) := c6.trans (by
      show SS p e below (T5.setTop (mkF m 8 #[vr x] [(.int z), (.int j)])) _
      refine XS.icmpYes X5.here hx rfl (pc0 := 8) (pc' := 15) rfl (hb hby D7_8) rfl (teq hq7).1 (by decide) (by decide) ?_
      refine XS.iconst X5.here hx rfl (hb hby D7_15) ?_
      exact Steps.refl _)
    obtain ⟨fs, hr, hrun, hended, hW, hsame⟩ := X5.leave (v := some (.int 0)) (fun h => by rw [Bd.returns] at h; cases h)
    refine ⟨_, _, c8.trans (retOut X5 hx Bd.returns rfl (Or.inl ⟨rfl, by simp, _, rfl⟩) (hb hby D7_16) hr), hrun, hended, _, _, rfl, ?_, ⟨_, rfl⟩, hW, hsame.mono (by first | decide | exact Nat.le_of_ble_eq_true rfl) (by first | decide | exact Nat.le_of_ble_eq_true rfl)⟩
    show QInt Z (if j = z then 0 else 1) h0 n0 _ T5.heap _
    rw [e5]
    exact ⟨by rw [if_pos hq7], N0, rfl⟩
  · have c9 : SS p e below S0 (T5.setTop (mkF m 16 #[vr x] [(.int 1)])) := c6.trans (by
      show SS p e below (T5.setTop (mkF m 8 #[vr x] [(.int z), (.int j)])) _
      refine XS.icmpNo X5.here hx rfl (hb hby D7_8) rfl (feq hq7).1 ?_
      refine XS.iconst X5.here hx rfl (hb hby D7_11) ?_
      refine XS.goto X5.here hx rfl (pc0 := 12) (pc' := 16) rfl (hb hby D7_12) (by decide) (by decide) ?_
      exact Steps.refl _)
    obtain ⟨fs, hr, hrun, hended, hW, hsame⟩ := X5.leave (v := some (.int 1)) (fun h => by rw [Bd.returns] at h; cases h)
    refine ⟨_, _, c9.trans (retOut X5 hx Bd.returns rfl (Or.inl ⟨rfl, by simp, _, rfl⟩) (hb hby D7_16) hr), hrun, hended, _, _, rfl, ?_, ⟨_, rfl⟩, hW, hsame.mono (by first | decide | exact Nat.le_of_ble_eq_true rfl) (by first | decide | exact Nat.le_of_ble_eq_true rfl)⟩
    show QInt Z (if j = z then 0 else 1) h0 n0 _ T5.heap _
    rw [e5]
    exact ⟨by rw [if_neg hq7], N0, rfl⟩

def QNx (Z : State) (x ls q : Addr) (j : Int32) (h0 : Heap) (n0 : Nat) (v : Option Value) (h : Heap) (L : List Loc) : Prop := v = some (.ref q) ∧ Fr n0 L ∧ Keep h0 h [x] ∧ Exa Z h x "java/util/ImmutableCollections$ListItr" ∧ Fld Z h x "java/util/ImmutableCollections$ListItr" "list" "Ljava/util/List;" (.ref ls) ∧ Fld Z h x "java/util/ImmutableCollections$ListItr" "size" "I" (.int 5) ∧ Fld Z h x "java/util/ImmutableCollections$ListItr" "cursor" "I" (.int (j + 1))

theorem D8_0 : decode jdk_53_method_4_code 0 = .ok (.aload_n 0, 1) := by decide +kernel
theorem D8_1 : decode jdk_53_method_4_code 1 = .ok (.getfield 17, 3) := by decide +kernel
theorem D8_4 : decode jdk_53_method_4_code 4 = .ok (.istore_n 1, 1) := by decide +kernel
theorem D8_5 : decode jdk_53_method_4_code 5 = .ok (.aload_n 0, 1) := by decide +kernel
theorem D8_6 : decode jdk_53_method_4_code 6 = .ok (.getfield 7, 3) := by decide +kernel
theorem D8_9 : decode jdk_53_method_4_code 9 = .ok (.iload_n 1, 1) := by decide +kernel
theorem pd_oIcLjavaslangsObjecte : parseMethodDescriptor "(I)Ljava/lang/Object;" = some ⟨[.int], some (.object "java/lang/Object")⟩ := by decide +kernel
theorem D8_10 : decode jdk_53_method_4_code 10 = .ok (.invokeinterface 24 2, 5) := by decide +kernel
theorem D8_15 : decode jdk_53_method_4_code 15 = .ok (.astore_n 2, 1) := by decide +kernel
theorem D8_16 : decode jdk_53_method_4_code 16 = .ok (.aload_n 0, 1) := by decide +kernel
theorem D8_17 : decode jdk_53_method_4_code 17 = .ok (.iload_n 1, 1) := by decide +kernel
theorem D8_18 : decode jdk_53_method_4_code 18 = .ok (.iconst 1, 1) := by decide +kernel
theorem D8_19 : decode jdk_53_method_4_code 19 = .ok (.iadd, 1) := by decide +kernel
theorem D8_20 : decode jdk_53_method_4_code 20 = .ok (.putfield 17, 3) := by decide +kernel
theorem D8_23 : decode jdk_53_method_4_code 23 = .ok (.aload_n 2, 1) := by decide +kernel
theorem D8_24 : decode jdk_53_method_4_code 24 = .ok (.areturn, 1) := by decide +kernel
theorem ef_rmNx (m : MethodId) (x0 : Addr) : entryFrame m #[(.ref x0)] 3 = mkF m 0 #[.val (.ref x0), .unset, .unset] [] := by first | (simp [entryFrame, mkF, argsToLocals, Value.category]; done) | rfl
set_option maxRecDepth 65536 in
set_option maxHeartbeats 40000000 in
theorem rmNx (l : Launch) (Z : State) (a0 : Array Value) (hw : ∀ d ∈ tables_1, d.before a0 Z = true) (ws : List Jvm.Cond) (x : Addr) (ls ea q0 q1 q2 q3 q4 : Addr) (ke : ClassId) (j : Int32) (q : Addr) (h0 : Heap) (n0 : Nat) (Z0 : n0 ≤ h0.size) (g_x : n0 ≤ x) (Ex : Exa Z h0 x "java/util/ImmutableCollections$ListItr") (Fl : Fld Z h0 x "java/util/ImmutableCollections$ListItr" "list" "Ljava/util/List;" (.ref ls)) (Fs : Fld Z h0 x "java/util/ImmutableCollections$ListItr" "size" "I" (.int 5)) (Fc : Fld Z h0 x "java/util/ImmutableCollections$ListItr" "cursor" "I" (.int j)) (El : Exa Z h0 ls "java/util/ImmutableCollections$ListN") (FL : Fld Z h0 ls "java/util/ImmutableCollections$ListN" "elements" "[Ljava/lang/Object;" (.ref ea)) (VL : Arv Z h0 ea ke (.object "java/lang/Object") (5 : Int32) [.ref q0, .ref q1, .ref q2, .ref q3, .ref q4] .null) (hj : ¬ j < 0 ∧ j < (5 : Int32)) (hq : ([.ref q0, .ref q1, .ref q2, .ref q3, .ref q4] : List Value).getD j.toNatClampNeg .null = .ref q) :
    MetFree l (⟨"java/util/ImmutableCollections$ListItr", "next", "()Ljava/lang/Object;"⟩ : MethodName) (head1 (Jvm.Cond.codeWith (⟨"java/util/ImmutableCollections$ListItr", "next", "()Ljava/lang/Object;"⟩ : MethodName) jdk_53_method_4_code 3 (some (.object "java/lang/Object")) [((0 : Nat), (24 : Nat), (25 : Nat), (30 : Nat))] :: ws) ({ frames := 1, cells := 0, slots := 0, locals := 13 } : Room)) (fun aa U => aa = #[(.ref x)] ∧ Z.Warmed39 U.vm ∧ U.heap = h0) (fun _ _ _ _ _ => True) (fun _ U o U' => ∃ v L, o = .returned v ∧ QNx Z x ls q j h0 n0 v U'.heap L ∧ FrameEnd U o U' L ({ frames := 1, cells := 0, slots := 0, locals := 13 } : Room).cells ({ frames := 1, cells := 0, slots := 0, locals := 13 } : Room).slots) := by
  refine MetFree.of_bodySF (plainFor_of_name pn_java_util_ImmutableCollections_ListItr) hisWith ?_
  intro p e s m args below meth c s₁ Bd hml0 hP hK
  obtain ⟨rfl, hZ, hh⟩ := hP
  have hx := Bd.exec
  have hby := Bd.bytes
  have hml : c.maxLocals = 3 := hml0
  have hown : s.vm.findClass "java/util/ImmutableCollections$ListItr" = some m.cls := findClass_of_methodNamed Bd.named
  have hnm := (name_of_methodNamed Bd.named Bd.method).1
  have X0 : Stand p l e ({ frames := 1, cells := 0, slots := 0, locals := 13 } : Room) s m #[(.ref x)] below meth c s₁ [] 0 0 := Stand.of_body Bd
  have e0 : s₁.heap = h0 := by rw [← hh, Bd.state]; rfl
  have N0 := Fr.nil n0
  have K0 := Keep.refl h0 [x]
  obtain ⟨S0, hS0⟩ : ∃ z, z = s₁.setTop (entryFrame m #[(.ref x)] 3) := ⟨_, rfl⟩
  rw [← hS0]
  have c0 : SS p e below S0 (s₁.setTop (mkF m 0 #[vr x, .unset, .unset] [])) := by
    rw [hS0]; exact castTop (ef_rmNx m x) (Steps.refl _)
  have c1 : SS p e below S0 (s₁.setTop (mkF m 1 #[vr x, .unset, .unset] [(.ref x)])) := c0.trans (by
    show SS p e below (s₁.setTop (mkF m 0 #[vr x, .unset, .unset] [])) _
    refine XS.aloadN X0.here hx rfl (hb hby D8_0) rfl rfl ?_
    exact Steps.refl _)
  obtain ⟨T2, X2, e2, st2⟩ := getF X0 hx hZ hown (host := "") (Or.inl (ww hw 134 rfl)) Via.refl e0 Fc (g := (mkF m 1 #[vr x, .unset, .unset] [(.ref x)])) rfl rfl (hb hby D8_1)
  have c3 : SS p e below S0 (T2.setTop (mkF m 4 #[vr x, .unset, .unset] [(.int j)])) := c1.trans (st2 _ (Steps.refl _))
  have c4 : SS p e below S0 (T2.setTop (mkF m 6 #[vr x, vi j, .unset] [(.ref x)])) := c3.trans (by
    show SS p e below (T2.setTop (mkF m 4 #[vr x, .unset, .unset] [(.int j)])) _
    refine XS.istoreN X2.here hx rfl (hb hby D8_4) rfl (l' := #[vr x, vi j, .unset]) rfl ?_
    refine XS.aloadN X2.here hx rfl (hb hby D8_5) rfl rfl ?_
    exact Steps.refl _)
  obtain ⟨T5, X5, e5, st5⟩ := getF X2 hx hZ hown (host := "") (Or.inl (ww hw 130 rfl)) Via.refl e2 Fl (g := (mkF m 6 #[vr x, vi j, .unset] [(.ref x)])) rfl rfl (hb hby D8_6)
  have c6 : SS p e below S0 (T5.setTop (mkF m 9 #[vr x, vi j, .unset] [(.ref ls)])) := c4.trans (st5 _ (Steps.refl _))
  have c7 : SS p e below S0 (T5.setTop (mkF m 10 #[vr x, vi j, .unset] [(.int j), (.ref ls)])) := c6.trans (by
    show SS p e below (T5.setTop (mkF m 9 #[vr x, vi j, .unset] [(.ref ls)])) _
    refine XS.iloadN X5.here hx rfl (hb hby D8_9) rfl ?_
    exact Steps.refl _)
  obtain ⟨cq8, kq8, q8a, q8b, q8c⟩ := isOf hZ e5 El
  obtain ⟨_, _, ⟨T8, L8, kk8, nn8⟩, -, X8, ⟨Lc8, hQ8, l8, y8, z8⟩, st8⟩ := X5.interfaceBack hx (xi := (⟨"java/util/List", "get", "(I)Ljava/lang/Object;"⟩ : MethodName)) (y := (⟨"java/util/ImmutableCollections$ListN", "get", "(I)Ljava/lang/Object;"⟩ : MethodName)) hown (mvT hZ (ww hw 155 rfl)) (mvT hZ (ww hw 156 rfl)) (mvT hZ (ww hw 157 rfl)) (mvT hZ (ww hw 158 rfl)) (mvT hZ (ww hw 159 rfl)) (mvT hZ (ww hw 160 rfl)) (mvT hZ (ww hw 161 rfl)) (mvT hZ (ww hw 110 rfl)) (by decide) (backOf (W := 0) (rmGet l Z a0 hw [] ls ea q0 q1 q2 q3 q4 ke j q h0 n0 Z0 FL VL hj hq) hZ (ww hw 162 rfl) (ww hw 121 rfl) (by decide) (by decide)) q8a q8b q8c (g := (mkF m 10 #[vr x, vi j, .unset] [(.int j), (.ref ls)])) rfl (by rw [hml]; rfl) (Steps.refl _) (argsL := [(.int j)]) (rest := []) (lenOf pd_oIcLjavaslangsObjecte rfl) rfl (by show 2 * 0 + _ ≤ _; exact Nat.le_of_eq rfl) (hb hby D8_10) (fun _ _ => ⟨rfl, e5, (by decide : 0 + 0 ≤ _), (by decide : 0 + 0 ≤ _)⟩)
  dsimp only [Pt.U, Pt.locs, Pt.cells, Pt.slots] at X8 l8 y8 z8 st8 hQ8
  subst l8 y8 z8
  obtain ⟨rfl, Nq8, eq8⟩ := hQ8
  have c9 : SS p e below S0 (T8.setTop (mkF m 15 #[vr x, vi j, .unset] [(.ref q)])) := c7.trans (st8)
  have N8 := Fr.app N0 Nq8
  have c10 : SS p e below S0 (T8.setTop (mkF m 20 #[vr x, vi j, vr q] [(.int (j + (1 : Int32))), (.ref x)])) := c9.trans (by
    show SS p e below (T8.setTop (mkF m 15 #[vr x, vi j, .unset] [(.ref q)])) _
    refine XS.astoreN X8.here hx rfl (hb hby D8_15) rfl rfl (l' := #[vr x, vi j, vr q]) rfl ?_
    refine XS.aloadN X8.here hx rfl (hb hby D8_16) rfl rfl ?_
    refine XS.iloadN X8.here hx rfl (hb hby D8_17) rfl ?_
    refine XS.iconst X8.here hx rfl (hb hby D8_18) ?_
    show SS p e below (T8.setTop (mkF m 19 #[vr x, vi j, vr q] [(.int 1), (.int j), (.ref x)])) _
    refine XS.iadd X8.here hx rfl (hb hby D8_19) rfl ?_
    exact Steps.refl _)
  obtain ⟨T11, h11, X11, e11, W11, st11⟩ := putF X8 hx hZ hown (host := "") (Or.inl (ww hw 134 rfl)) Via.refl eq8 Fc Ex (Or.inl (ww hw 135 rfl)) (ww hw 114 rfl) (ty := .int) (by decide) rfl rfl (g := (mkF m 20 #[vr x, vi j, vr q] [(.int (j + (1 : Int32))), (.ref x)])) rfl rfl (hb hby D8_20)
  have c12 : SS p e below S0 (T11.setTop (mkF m 23 #[vr x, vi j, vr q] [])) := c10.trans (st11 _ (Steps.refl _))
  have N11 := Fr.snoc X11 N8 g_x
  have Fw11 := Fc.same W11
  have z11 : n0 ≤ h11.size := Nat.le_trans Z0 (Keep.of_wr W11).1
  have K11 := K0.wr W11 (Or.inl (by simp))
  have c13 : SS p e below S0 (T11.setTop (mkF m 24 #[vr x, vi j, vr q] [(.ref q)])) := c12.trans (by
    show SS p e below (T11.setTop (mkF m 23 #[vr x, vi j, vr q] [])) _
    refine XS.aloadN X11.here hx rfl (hb hby D8_23) rfl rfl ?_
    exact Steps.refl _)
  obtain ⟨fs, hr, hrun, hended, hW, hsame⟩ := X11.leave (v := some (.ref q)) (fun h => by rw [Bd.returns] at h; cases h)
  refine ⟨_, _, c13.trans (retOut X11 hx Bd.returns rfl (Or.inr (Or.inr (Or.inr (Or.inr ⟨rfl, rfl, rfl⟩)))) (hb hby D8_24) hr), hrun, hended, _, _, rfl, ?_, ⟨_, rfl⟩, hW, hsame.mono (by first | decide | exact Nat.le_of_ble_eq_true rfl) (by first | decide | exact Nat.le_of_ble_eq_true rfl)⟩
  show QNx Z x ls q j h0 n0 _ T11.heap _
  rw [e11]
  exact ⟨rfl, N11, K11, (Ex.wr W11), (Fl.other W11 (Or.inr (slot_ne (Or.inr (ww hw 131 rfl)) (Or.inl (ww hw 135 rfl)) (by decide) (t := (.object "java/util/List")) (t' := .int) (by decide) (by decide)))), (Fs.other W11 (Or.inr (slot_ne (Or.inr (ww hw 133 rfl)) (Or.inl (ww hw 135 rfl)) (by decide) (t := .int) (t' := .int) (by decide) (by decide)))), Fw11⟩

def QTF (Z : State) (P : Prop) (h0 : Heap) (n0 : Nat) (v : Option Value) (h : Heap) (L : List Loc) : Prop := ∃ r : Int32, v = some (.int r) ∧ TF r P ∧ Fr n0 L ∧ h = h0

theorem D9_0 : decode prog_49_method_2_code 0 = .ok (.aload_n 0, 1) := by decide +kernel
theorem D9_1 : decode prog_49_method_2_code 1 = .ok (.getfield 7, 3) := by decide +kernel
theorem D9_4 : decode prog_49_method_2_code 4 = .ok (.iload_n 1, 1) := by decide +kernel
theorem D9_5 : decode prog_49_method_2_code 5 = .ok (.if_icmp .gt 15, 3) := by decide +kernel
theorem D9_20 : decode prog_49_method_2_code 20 = .ok (.iconst 0, 1) := by decide +kernel
theorem D9_21 : decode prog_49_method_2_code 21 = .ok (.ireturn, 1) := by decide +kernel
theorem D9_8 : decode prog_49_method_2_code 8 = .ok (.iload_n 1, 1) := by decide +kernel
theorem D9_9 : decode prog_49_method_2_code 9 = .ok (.aload_n 0, 1) := by decide +kernel
theorem D9_10 : decode prog_49_method_2_code 10 = .ok (.getfield 13, 3) := by decide +kernel
theorem D9_13 : decode prog_49_method_2_code 13 = .ok (.if_icmp .gt 7, 3) := by decide +kernel
theorem D9_16 : decode prog_49_method_2_code 16 = .ok (.iconst 1, 1) := by decide +kernel
theorem D9_17 : decode prog_49_method_2_code 17 = .ok (.goto 4, 3) := by decide +kernel
theorem pn_com_example_pricefold_pricefold_model_Identifier_Span : plainName "com/example/pricefold/pricefold/model/Identifier$Span" = true := by first | (simp [plainName, overriddenIn]; done) | decide +kernel
theorem ef_rmHo (m : MethodId) (x0 : Addr) (x1 : Int32) : entryFrame m #[(.ref x0), (.int x1)] 2 = mkF m 0 #[.val (.ref x0), .val (.int x1)] [] := by first | (simp [entryFrame, mkF, argsToLocals, Value.category]; done) | rfl
set_option maxRecDepth 65536 in
set_option maxHeartbeats 40000000 in
theorem rmHo (l : Launch) (Z : State) (a0 : Array Value) (hw : ∀ d ∈ tables_1, d.before a0 Z = true) (ws : List Jvm.Cond) (q : Addr) (ch lo hi : Int32) (h0 : Heap) (n0 : Nat) (Z0 : n0 ≤ h0.size) (Fa : Fld Z h0 q "com/example/pricefold/pricefold/model/Identifier$Span" "first" "C" (.int lo)) (Fb : Fld Z h0 q "com/example/pricefold/pricefold/model/Identifier$Span" "last" "C" (.int hi)) :
    MetFree l (⟨"com/example/pricefold/pricefold/model/Identifier$Span", "holds", "(C)Z"⟩ : MethodName) (head1 (Jvm.Cond.code (⟨"com/example/pricefold/pricefold/model/Identifier$Span", "holds", "(C)Z"⟩ : MethodName) prog_49_method_2_code 2 (some .boolean) :: ws) ({ frames := 0, cells := 0, slots := 0, locals := 0 } : Room)) (fun aa U => aa = #[(.ref q), (.int ch)] ∧ Z.Warmed39 U.vm ∧ U.heap = h0) (fun _ _ _ _ _ => True) (fun _ U o U' => ∃ v L, o = .returned v ∧ QTF Z (¬ ch < lo ∧ ¬ hi < ch) h0 n0 v U'.heap L ∧ FrameEnd U o U' L ({ frames := 0, cells := 0, slots := 0, locals := 0 } : Room).cells ({ frames := 0, cells := 0, slots := 0, locals := 0 } : Room).slots) := by
  refine MetFree.of_bodySF (plainFor_of_name pn_com_example_pricefold_pricefold_model_Identifier_Span) hisR ?_
  intro p e s m args below meth c s₁ Bd hml0 hP hK
  obtain ⟨rfl, hZ, hh⟩ := hP
  have hx := Bd.exec
  have hby := Bd.bytes
  have hml : c.maxLocals = 2 := hml0
  have hown : s.vm.findClass "com/example/pricefold/pricefold/model/Identifier$Span" = some m.cls := findClass_of_methodNamed Bd.named
  have hnm := (name_of_methodNamed Bd.named Bd.method).1
  have X0 : Stand p l e ({ frames := 0, cells := 0, slots := 0, locals := 0 } : Room) s m #[(.ref q), (.int ch)] below meth c s₁ [] 0 0 := Stand.of_body Bd
  have e0 : s₁.heap = h0 := by rw [← hh, Bd.state]; rfl
  have N0 := Fr.nil n0
  have K0 := Keep.refl h0 []
  obtain ⟨S0, hS0⟩ : ∃ z, z = s₁.setTop (entryFrame m #[(.ref q), (.int ch)] 2) := ⟨_, rfl⟩
  rw [← hS0]
  have c0 : SS p e below S0 (s₁.setTop (mkF m 0 #[vr q, vi ch] [])) := by
    rw [hS0]; exact castTop (ef_rmHo m q ch) (Steps.refl _)
  have c1 : SS p e below S0 (s₁.setTop (mkF m 1 #[vr q, vi ch] [(.ref q)])) := c0.trans (by
    show SS p e below (s₁.setTop (mkF m 0 #[vr q, vi ch] [])) _
    refine XS.aloadN X0.here hx rfl (hb hby D9_0) rfl rfl ?_
    exact Steps.refl _)
  obtain ⟨T2, X2, e2, st2⟩ := getF X0 hx hZ hown (host := "") (Or.inl (ww hw 171 rfl)) Via.refl e0 Fa (g := (mkF m 1 #[vr q, vi ch] [(.ref q)])) rfl rfl (hb hby D9_1)
  have c3 : SS p e below S0 (T2.setTop (mkF m 4 #[vr q, vi ch] [(.int lo)])) := c1.trans (st2 _ (Steps.refl _))
  have c4 : SS p e below S0 (T2.setTop (mkF m 5 #[vr q, vi ch] [(.int ch), (.int lo)])) := c3.trans (by
    show SS p e below (T2.setTop (mkF m 4 #[vr q, vi ch] [(.int lo)])) _
    refine XS.iloadN X2.here hx rfl (hb hby D9_4) rfl ?_
    exact Steps.refl _)
  by_cases hq5 : ch < lo
  · have c6 : SS p e below S0 (T2.setTop (mkF m 21 #[vr q, vi ch] [(.int 0)])) := c4.trans (by
      show SS p e below (T2.setTop (mkF m 5 #[vr q, vi ch] [(.int ch), (.int lo)])) _
      refine XS.icmpYes X2.here hx rfl (pc0 := 5) (pc' := 20) rfl (hb hby D9_5) rfl (tlt hq5).2.2.1 (by decide) (by decide) ?_
      refine XS.iconst X2.here hx rfl (hb hby D9_20) ?_
      exact Steps.refl _)
    obtain ⟨fs, hr, hrun, hended, hW, hsame⟩ := X2.leave (v := some (.int 0)) (fun h => by rw [Bd.returns] at h; cases h)
    refine ⟨_, _, c6.trans (retOut X2 hx Bd.returns rfl (Or.inl ⟨rfl, by simp, _, rfl⟩) (hb hby D9_21) hr), hrun, hended, _, _, rfl, ?_, ⟨_, rfl⟩, hW, hsame.mono (by first | decide | exact Nat.le_of_ble_eq_true rfl) (by first | decide | exact Nat.le_of_ble_eq_true rfl)⟩
    show QTF Z (¬ ch < lo ∧ ¬ hi < ch) h0 n0 _ T2.heap _
    rw [e2]
    exact ⟨_, rfl, Or.inr ⟨rfl, fun q => q.1 hq5⟩, N0, rfl⟩
  · have c7 : SS p e below S0 (T2.setTop (mkF m 10 #[vr q, vi ch] [(.ref q), (.int ch)])) := c4.trans (by
      show SS p e below (T2.setTop (mkF m 5 #[vr q, vi ch] [(.int ch), (.int lo)])) _
      refine XS.icmpNo X2.here hx rfl (hb hby D9_5) rfl (flt hq5).2.2.1 ?_
      refine XS.iloadN X2.here hx rfl (hb hby D9_8) rfl ?_
      refine XS.aloadN X2.here hx rfl (hb hby D9_9) rfl rfl ?_
      exact Steps.refl _)
    obtain ⟨T8, X8, e8, st8⟩ := getF X2 hx hZ hown (host := "") (Or.inl (ww hw 173 rfl)) Via.refl e2 Fb (g := (mkF m 10 #[vr q, vi ch] [(.ref q), (.int ch)])) rfl rfl (hb hby D9_10)
    have c9 : SS p e below S0 (T8.setTop (mkF m 13 #[vr q, vi ch] [(.int hi), (.int ch)])) := c7.trans (st8 _ (Steps.refl _))
    by_cases hq10 : hi < ch
    · have c11 : SS p e below S0 (T8.setTop (mkF m 21 #[vr q, vi ch] [(.int 0)])) := c9.trans (by
        show SS p e below (T8.setTop (mkF m 13 #[vr q, vi ch] [(.int hi), (.int ch)])) _
        refine XS.icmpYes X8.here hx rfl (pc0 := 13) (pc' := 20) rfl (hb hby D9_13) rfl (tlt hq10).2.2.1 (by decide) (by decide) ?_
        refine XS.iconst X8.here hx rfl (hb hby D9_20) ?_
        exact Steps.refl _)
      obtain ⟨fs, hr, hrun, hended, hW, hsame⟩ := X8.leave (v := some (.int 0)) (fun h => by rw [Bd.returns] at h; cases h)
      refine ⟨_, _, c11.trans (retOut X8 hx Bd.returns rfl (Or.inl ⟨rfl, by simp, _, rfl⟩) (hb hby D9_21) hr), hrun, hended, _, _, rfl, ?_, ⟨_, rfl⟩, hW, hsame.mono (by first | decide | exact Nat.le_of_ble_eq_true rfl) (by first | decide | exact Nat.le_of_ble_eq_true rfl)⟩
      show QTF Z (¬ ch < lo ∧ ¬ hi < ch) h0 n0 _ T8.heap _
      rw [e8]
      exact ⟨_, rfl, Or.inr ⟨rfl, fun q => q.2 hq10⟩, N0, rfl⟩
    · have c12 : SS p e below S0 (T8.setTop (mkF m 21 #[vr q, vi ch] [(.int 1)])) := c9.trans (by
        show SS p e below (T8.setTop (mkF m 13 #[vr q, vi ch] [(.int hi), (.int ch)])) _
        refine XS.icmpNo X8.here hx rfl (hb hby D9_13) rfl (flt hq10).2.2.1 ?_
        refine XS.iconst X8.here hx rfl (hb hby D9_16) ?_
        refine XS.goto X8.here hx rfl (pc0 := 17) (pc' := 21) rfl (hb hby D9_17) (by decide) (by decide) ?_
        exact Steps.refl _)
      obtain ⟨fs, hr, hrun, hended, hW, hsame⟩ := X8.leave (v := some (.int 1)) (fun h => by rw [Bd.returns] at h; cases h)
      refine ⟨_, _, c12.trans (retOut X8 hx Bd.returns rfl (Or.inl ⟨rfl, by simp, _, rfl⟩) (hb hby D9_21) hr), hrun, hended, _, _, rfl, ?_, ⟨_, rfl⟩, hW, hsame.mono (by first | decide | exact Nat.le_of_ble_eq_true rfl) (by first | decide | exact Nat.le_of_ble_eq_true rfl)⟩
      show QTF Z (¬ ch < lo ∧ ¬ hi < ch) h0 n0 _ T8.heap _
      rw [e8]
      exact ⟨_, rfl, Or.inl ⟨rfl, hq5, hq10⟩, N0, rfl⟩

abbrev own_am (ch : Int32) : Prop := (¬ ch < 65 ∧ ¬ 90 < ch) ∨ (¬ ch < 97 ∧ ¬ 122 < ch) ∨ (¬ ch < 48 ∧ ¬ 57 < ch) ∨ (¬ ch < 45 ∧ ¬ 45 < ch) ∨ (¬ ch < 95 ∧ ¬ 95 < ch)

def QAm (Z : State) (ch : Int32) (h0 : Heap) (n0 : Nat) (v : Option Value) (h : Heap) (L : List Loc) : Prop := ∃ r : Int32, v = some (.int r) ∧ TF r (own_am ch) ∧ Fr n0 L ∧ Keep h0 h []

theorem D10_0 : decode prog_48_method_6_code 0 = .ok (.getstatic 60, 3) := by decide +kernel
theorem pd_ocLjavasutilsIteratore : parseMethodDescriptor "()Ljava/util/Iterator;" = some ⟨[], some (.object "java/util/Iterator")⟩ := by decide +kernel
theorem D10_3 : decode prog_48_method_6_code 3 = .ok (.invokeinterface 64 1, 5) := by decide +kernel
theorem D10_8 : decode prog_48_method_6_code 8 = .ok (.astore_n 1, 1) := by decide +kernel
theorem D10_9 : decode prog_48_method_6_code 9 = .ok (.aload_n 1, 1) := by decide +kernel
theorem pd_ocZ : parseMethodDescriptor "()Z" = some ⟨[], some .boolean⟩ := by decide +kernel
theorem D10_10 : decode prog_48_method_6_code 10 = .ok (.invokeinterface 70 1, 5) := by decide +kernel
theorem D10_15 : decode prog_48_method_6_code 15 = .ok (.ifCond .eq 26, 3) := by decide +kernel
theorem D10_18 : decode prog_48_method_6_code 18 = .ok (.aload_n 1, 1) := by decide +kernel
theorem pd_ocLjavaslangsObjecte : parseMethodDescriptor "()Ljava/lang/Object;" = some ⟨[], some (.object "java/lang/Object")⟩ := by decide +kernel
theorem D10_19 : decode prog_48_method_6_code 19 = .ok (.invokeinterface 76 1, 5) := by decide +kernel
theorem D10_24 : decode prog_48_method_6_code 24 = .ok (.checkcast 79, 3) := by decide +kernel
theorem D10_27 : decode prog_48_method_6_code 27 = .ok (.astore_n 2, 1) := by decide +kernel
theorem D10_28 : decode prog_48_method_6_code 28 = .ok (.aload_n 2, 1) := by decide +kernel
theorem D10_29 : decode prog_48_method_6_code 29 = .ok (.iload_n 0, 1) := by decide +kernel
theorem pd_oCcZ : parseMethodDescriptor "(C)Z" = some ⟨[.char], some .boolean⟩ := by decide +kernel
theorem D10_30 : decode prog_48_method_6_code 30 = .ok (.invokevirtual 81, 3) := by decide +kernel
theorem D10_33 : decode prog_48_method_6_code 33 = .ok (.ifCond .eq 5, 3) := by decide +kernel
theorem D10_38 : decode prog_48_method_6_code 38 = .ok (.goto (-29), 3) := by decide +kernel
theorem D10_41 : decode prog_48_method_6_code 41 = .ok (.iconst 0, 1) := by decide +kernel
theorem D10_42 : decode prog_48_method_6_code 42 = .ok (.ireturn, 1) := by decide +kernel
theorem D10_36 : decode prog_48_method_6_code 36 = .ok (.iconst 1, 1) := by decide +kernel
theorem D10_37 : decode prog_48_method_6_code 37 = .ok (.ireturn, 1) := by decide +kernel
theorem ef_rmAm (m : MethodId) (x0 : Int32) : entryFrame m #[(.int x0)] 3 = mkF m 0 #[.val (.int x0), .unset, .unset] [] := by first | (simp [entryFrame, mkF, argsToLocals, Value.category]; done) | rfl
set_option maxRecDepth 65536 in
set_option maxHeartbeats 40000000 in
theorem rmAm (l : Launch) (Z : State) (a0 : Array Value) (hw : ∀ d ∈ tables_1, d.before a0 Z = true) (ws : List Jvm.Cond) (ch : Int32) (ls ea q0 q1 q2 q3 q4 : Addr) (ke : ClassId) (h0 : Heap) (n0 : Nat) (Z0 : n0 ≤ h0.size) (sC : Sta Z Z.heap "com/example/pricefold/pricefold/model/Identifier" "CHARACTERS" "Ljava/util/List;" (.ref ls)) (xls : Exa Z Z.heap ls "java/util/ImmutableCollections$ListN") (fls : Fld Z Z.heap ls "java/util/ImmutableCollections$ListN" "elements" "[Ljava/lang/Object;" (.ref ea)) (Vea : Arv Z Z.heap ea ke (.object "java/lang/Object") (5 : Int32) [.ref q0, .ref q1, .ref q2, .ref q3, .ref q4] .null) (xq0 : Exa Z Z.heap q0 "com/example/pricefold/pricefold/model/Identifier$Span") (xq1 : Exa Z Z.heap q1 "com/example/pricefold/pricefold/model/Identifier$Span") (xq2 : Exa Z Z.heap q2 "com/example/pricefold/pricefold/model/Identifier$Span") (xq3 : Exa Z Z.heap q3 "com/example/pricefold/pricefold/model/Identifier$Span") (xq4 : Exa Z Z.heap q4 "com/example/pricefold/pricefold/model/Identifier$Span") (fq0_0 : Fld Z Z.heap q0 "com/example/pricefold/pricefold/model/Identifier$Span" "first" "C" (.int 65)) (fq0_1 : Fld Z Z.heap q0 "com/example/pricefold/pricefold/model/Identifier$Span" "last" "C" (.int 90)) (fq1_0 : Fld Z Z.heap q1 "com/example/pricefold/pricefold/model/Identifier$Span" "first" "C" (.int 97)) (fq1_1 : Fld Z Z.heap q1 "com/example/pricefold/pricefold/model/Identifier$Span" "last" "C" (.int 122)) (fq2_0 : Fld Z Z.heap q2 "com/example/pricefold/pricefold/model/Identifier$Span" "first" "C" (.int 48)) (fq2_1 : Fld Z Z.heap q2 "com/example/pricefold/pricefold/model/Identifier$Span" "last" "C" (.int 57)) (fq3_0 : Fld Z Z.heap q3 "com/example/pricefold/pricefold/model/Identifier$Span" "first" "C" (.int 45)) (fq3_1 : Fld Z Z.heap q3 "com/example/pricefold/pricefold/model/Identifier$Span" "last" "C" (.int 45)) (fq4_0 : Fld Z Z.heap q4 "com/example/pricefold/pricefold/model/Identifier$Span" "first" "C" (.int 95)) (fq4_1 : Fld Z Z.heap q4 "com/example/pricefold/pricefold/model/Identifier$Span" "last" "C" (.int 95)) (X00 : Old Z n0 h0) :
    MetFree l (⟨"com/example/pricefold/pricefold/model/Identifier", "isAmongCharacters", "(C)Z"⟩ : MethodName) (head1 (Jvm.Cond.code (⟨"com/example/pricefold/pricefold/model/Identifier", "isAmongCharacters", "(C)Z"⟩ : MethodName) prog_48_method_6_code 3 (some .boolean) :: ws) ({ frames := 3, cells := 1, slots := 4, locals := 39 } : Room)) (fun aa U => aa = #[(.int ch)] ∧ Z.Warmed39 U.vm ∧ U.heap = h0) (fun _ _ _ _ _ => True) (fun _ U o U' => ∃ v L, o = .returned v ∧ QAm Z ch h0 n0 v U'.heap L ∧ FrameEnd U o U' L ({ frames := 3, cells := 1, slots := 4, locals := 39 } : Room).cells ({ frames := 3, cells := 1, slots := 4, locals := 39 } : Room).slots) := by
  refine MetFree.of_bodySF (plainFor_of_name pn_com_example_pricefold_pricefold_model_Identifier) hisR ?_
  intro p e s m args below meth c s₁ Bd hml0 hP hK
  obtain ⟨rfl, hZ, hh⟩ := hP
  have hx := Bd.exec
  have hby := Bd.bytes
  have hml : c.maxLocals = 3 := hml0
  have hown : s.vm.findClass "com/example/pricefold/pricefold/model/Identifier" = some m.cls := findClass_of_methodNamed Bd.named
  have hnm := (name_of_methodNamed Bd.named Bd.method).1
  have X0 : Stand p l e ({ frames := 3, cells := 1, slots := 4, locals := 39 } : Room) s m #[(.int ch)] below meth c s₁ [] 0 0 := Stand.of_body Bd
  have e0 : s₁.heap = h0 := by rw [← hh, Bd.state]; rfl
  have N0 := Fr.nil n0
  have K0 := Keep.refl h0 []
  obtain ⟨S0, hS0⟩ : ∃ z, z = s₁.setTop (entryFrame m #[(.int ch)] 3) := ⟨_, rfl⟩
  rw [← hS0]
  have c0 : SS p e below S0 (s₁.setTop (mkF m 0 #[vi ch, .unset, .unset] [])) := by
    rw [hS0]; exact castTop (ef_rmAm m ch) (Steps.refl _)
  obtain ⟨T1, X1, e1, st1⟩ := getS2 X0 hx hZ hown (host := "") (Or.inl (ww hw 101 rfl)) Via.refl e0 (sC.ext X00.2) (g := (mkF m 0 #[vi ch, .unset, .unset] [])) rfl (hb hby D10_0)
  have c2 : SS p e below S0 (T1.setTop (mkF m 3 #[vi ch, .unset, .unset] [(.ref ls)])) := c0.trans (st1 _ (Steps.refl _))
  obtain ⟨cq3, kq3, q3a, q3b, q3c⟩ := isOf hZ e1 (xls.ext X00.2)
  obtain ⟨_, _, ⟨T3, L3, kk3, nn3⟩, -, X3, ⟨Lc3, hQ3, l3, y3, z3⟩, st3⟩ := X1.interfaceBack hx (xi := (⟨"java/util/List", "iterator", "()Ljava/util/Iterator;"⟩ : MethodName)) (y := (⟨"java/util/ImmutableCollections$AbstractImmutableList", "iterator", "()Ljava/util/Iterator;"⟩ : MethodName)) hown (mvT hZ (ww hw 103 rfl)) (mvT hZ (ww hw 104 rfl)) (mvT hZ (ww hw 105 rfl)) (mvT hZ (ww hw 106 rfl)) (mvT hZ (ww hw 107 rfl)) (mvT hZ (ww hw 108 rfl)) (mvT hZ (ww hw 109 rfl)) (mvT hZ (ww hw 110 rfl)) (by decide) (backOf (W := 0) (rmIt l Z a0 hw [] ls ea q0 q1 q2 q3 q4 ke h0 n0 Z0 (xls.ext X00.2) (fls.ext X00.2) (Vea.ext X00.2)) hZ (ww hw 112 rfl) (ww hw 111 rfl) (by decide) (by decide)) q3a q3b q3c (g := (mkF m 3 #[vi ch, .unset, .unset] [(.ref ls)])) rfl (by rw [hml]; rfl) (Steps.refl _) (argsL := []) (rest := []) (lenOf pd_ocLjavasutilsIteratore rfl) rfl (by show 2 * 0 + _ ≤ _; exact Nat.le_of_eq rfl) (hb hby D10_3) (fun _ _ => ⟨rfl, e1, (by decide : 0 + 1 ≤ _), (by decide : 0 + 4 ≤ _)⟩)
  dsimp only [Pt.U, Pt.locs, Pt.cells, Pt.slots] at X3 l3 y3 z3 st3 hQ3
  subst l3 y3 z3
  obtain ⟨x3, rfl, Nq3, Kq3, gx3, Ei3, Fl3, Fs3, Fc3⟩ := hQ3
  have c4 : SS p e below S0 (T3.setTop (mkF m 8 #[vi ch, .unset, .unset] [(.ref x3)])) := c2.trans (st3)
  have N3 := Fr.app N0 Nq3
  have z3 : n0 ≤ T3.heap.size := Nat.le_trans Z0 Kq3.1
  have K3 := K0.trans Kq3 all0
  have lt_x3 := Ei3.lt
  have c5 : SS p e below S0 (T3.setTop (mkF m 10 #[vi ch, vr x3, .unset] [(.ref x3)])) := c4.trans (by
    show SS p e below (T3.setTop (mkF m 8 #[vi ch, .unset, .unset] [(.ref x3)])) _
    refine XS.astoreN X3.here hx rfl (hb hby D10_8) rfl rfl (l' := #[vi ch, vr x3, .unset]) rfl ?_
    refine XS.aloadN X3.here hx rfl (hb hby D10_9) rfl rfl ?_
    exact Steps.refl _)
  obtain ⟨cq6, kq6, q6a, q6b, q6c⟩ := isOf hZ rfl Ei3
  obtain ⟨_, _, ⟨T6, L6, kk6, nn6⟩, -, X6, ⟨Lc6, hQ6, l6, y6, z6⟩, st6⟩ := X3.interfaceBack hx (xi := (⟨"java/util/Iterator", "hasNext", "()Z"⟩ : MethodName)) (y := (⟨"java/util/ImmutableCollections$ListItr", "hasNext", "()Z"⟩ : MethodName)) hown (mvT hZ (ww hw 138 rfl)) (mvT hZ (ww hw 139 rfl)) (mvT hZ (ww hw 140 rfl)) (mvT hZ (ww hw 141 rfl)) (mvT hZ (ww hw 142 rfl)) (mvT hZ (ww hw 143 rfl)) (mvT hZ (ww hw 144 rfl)) (mvT hZ (ww hw 145 rfl)) (by decide) (backOf (W := 0) (rmHas l Z a0 hw [] x3 (0 : Int32) (5 : Int32) T3.heap n0 z3 Fc3 Fs3) hZ (ww hw 146 rfl) (ww hw 115 rfl) (by decide) (by decide)) q6a q6b q6c (g := (mkF m 10 #[vi ch, vr x3, .unset] [(.ref x3)])) rfl (by rw [hml]; rfl) (Steps.refl _) (argsL := []) (rest := []) (lenOf pd_ocZ rfl) rfl (by show 2 * 0 + _ ≤ _; exact Nat.le_of_eq rfl) (hb hby D10_10) (fun _ _ => ⟨rfl, rfl, (by decide : 1 + 0 ≤ _), (by decide : 4 + 0 ≤ _)⟩)
  dsimp only [Pt.U, Pt.locs, Pt.cells, Pt.slots] at X6 l6 y6 z6 st6 hQ6
  subst l6 y6 z6
  obtain ⟨rfl, Nq6, eq6⟩ := hQ6
  have c7 : SS p e below S0 (T6.setTop (mkF m 15 #[vi ch, vr x3, .unset] [(.int (if (0 : Int32) = (5 : Int32) then (0 : Int32) else (1 : Int32)))])) := c5.trans (st6)
  have N6 := Fr.app N3 Nq6
  rw [(show (if (0 : Int32) = (5 : Int32) then (0 : Int32) else (1 : Int32)) = (1 : Int32) from by decide)] at c7
  have c8 : SS p e below S0 (T6.setTop (mkF m 19 #[vi ch, vr x3, .unset] [(.ref x3)])) := c7.trans (by
    show SS p e below (T6.setTop (mkF m 15 #[vi ch, vr x3, .unset] [(.int 1)])) _
    refine XS.ifNo X6.here hx rfl (hb hby D10_15) rfl ((if0 _ _).trans (feq (by decide : ¬ ((1 : Int32) = (0 : Int32)))).1) ?_
    refine XS.aloadN X6.here hx rfl (hb hby D10_18) rfl rfl ?_
    exact Steps.refl _)
  obtain ⟨cq9, kq9, q9a, q9b, q9c⟩ := isOf hZ eq6 Ei3
  obtain ⟨_, _, ⟨T9, L9, kk9, nn9⟩, -, X9, ⟨Lc9, hQ9, l9, y9, z9⟩, st9⟩ := X6.interfaceBack hx (xi := (⟨"java/util/Iterator", "next", "()Ljava/lang/Object;"⟩ : MethodName)) (y := (⟨"java/util/ImmutableCollections$ListItr", "next", "()Ljava/lang/Object;"⟩ : MethodName)) hown (mvT hZ (ww hw 147 rfl)) (mvT hZ (ww hw 148 rfl)) (mvT hZ (ww hw 149 rfl)) (mvT hZ (ww hw 150 rfl)) (mvT hZ (ww hw 151 rfl)) (mvT hZ (ww hw 152 rfl)) (mvT hZ (ww hw 153 rfl)) (mvT hZ (ww hw 145 rfl)) (by decide) (backOfWith (W := 0) (rmNx l Z a0 hw [] x3 ls ea q0 q1 q2 q3 q4 ke (0 : Int32) q0 T3.heap n0 z3 (Nat.le_trans Z0 (Nat.le_trans K0.1 gx3)) Ei3 Fl3 Fs3 Fc3 ((xls.ext X00.2).keep Kq3) ((fls.ext X00.2).keep Kq3 nin0) ((Vea.ext X00.2).keep Kq3 nin0) ⟨by decide, by decide⟩ rfl) hZ (ww hw 154 rfl) (ww hw 115 rfl) (by decide) (by decide)) q9a q9b q9c (g := (mkF m 19 #[vi ch, vr x3, .unset] [(.ref x3)])) rfl (by rw [hml]; rfl) (Steps.refl _) (argsL := []) (rest := []) (lenOf pd_ocLjavaslangsObjecte rfl) rfl (by show 2 * 0 + _ ≤ _; exact Nat.le_of_eq rfl) (hb hby D10_19) (fun _ _ => ⟨rfl, eq6, (by decide : 1 + 0 ≤ _), (by decide : 4 + 0 ≤ _)⟩)
  dsimp only [Pt.U, Pt.locs, Pt.cells, Pt.slots] at X9 l9 y9 z9 st9 hQ9
  subst l9 y9 z9
  obtain ⟨rfl, Nq9, Kq9, Ei9, Fl9, Fs9, Fc9⟩ := hQ9
  have c10 : SS p e below S0 (T9.setTop (mkF m 24 #[vi ch, vr x3, .unset] [(.ref q0)])) := c8.trans (st9)
  have N9 := Fr.app N6 Nq9
  have z9 : n0 ≤ T9.heap.size := Nat.le_trans z3 Kq9.1
  have K9 := K3.trans Kq9 (allS (Or.inr (Nat.le_trans K0.1 gx3)) all0)
  have Fc9 : Fld Z T9.heap x3 "java/util/ImmutableCollections$ListItr" "cursor" "I" (.int 1) := Fc9
  obtain ⟨T11, X11, e11, st11⟩ := castY X9 hx hZ hown (ww hw 163 rfl) rfl (Ins.self (((xq0.ext X00.2).keep Kq3).keep Kq9)) (g := (mkF m 24 #[vi ch, vr x3, .unset] [(.ref q0)])) rfl rfl (hb hby D10_24)
  have c12 : SS p e below S0 (T11.setTop (mkF m 27 #[vi ch, vr x3, .unset] [(.ref q0)])) := c10.trans (st11 _ (Steps.refl _))
  have c13 : SS p e below S0 (T11.setTop (mkF m 30 #[vi ch, vr x3, vr q0] [(.int ch), (.ref q0)])) := c12.trans (by
    show SS p e below (T11.setTop (mkF m 27 #[vi ch, vr x3, .unset] [(.ref q0)])) _
    refine XS.astoreN X11.here hx rfl (hb hby D10_27) rfl rfl (l' := #[vi ch, vr x3, vr q0]) rfl ?_
    refine XS.aloadN X11.here hx rfl (hb hby D10_28) rfl rfl ?_
    refine XS.iloadN X11.here hx rfl (hb hby D10_29) rfl ?_
    exact Steps.refl _)
  obtain ⟨cq14, kq14, q14a, q14b, q14c⟩ := isOf hZ e11 (((xq0.ext X00.2).keep Kq3).keep Kq9)
  obtain ⟨_, _, ⟨T14, L14, kk14, nn14⟩, -, X14, ⟨Lc14, hQ14, l14, y14, z14⟩, st14⟩ := X11.virtualBack hx (y := (⟨"com/example/pricefold/pricefold/model/Identifier$Span", "holds", "(C)Z"⟩ : MethodName)) (z := (⟨"com/example/pricefold/pricefold/model/Identifier$Span", "holds", "(C)Z"⟩ : MethodName)) hown (mvT hZ (ww hw 165 rfl)) (mvT hZ (ww hw 166 rfl)) (notFace_of_selects (args := #[]) (mvT hZ (ww hw 168 rfl))) (mvT hZ (ww hw 168 rfl)) (mvT hZ (ww hw 167 rfl)) (by decide) (backOf (W := 0) (rmHo l Z a0 hw [] q0 ch (65 : Int32) (90 : Int32) T9.heap n0 z9 (((fq0_0.ext X00.2).keep Kq3 nin0).keep Kq9 (ninS (Nat.ne_of_lt (Nat.lt_of_lt_of_le (xq0.ext X00.2).lt gx3)) nin0)) (((fq0_1.ext X00.2).keep Kq3 nin0).keep Kq9 (ninS (Nat.ne_of_lt (Nat.lt_of_lt_of_le (xq0.ext X00.2).lt gx3)) nin0))) hZ (ww hw 170 rfl) (ww hw 169 rfl) (by decide) (by decide)) q14a q14c (g := (mkF m 30 #[vi ch, vr x3, vr q0] [(.int ch), (.ref q0)])) rfl (by rw [hml]; rfl) (Steps.refl _) (argsL := [(.int ch)]) (rest := []) (lenOf pd_oCcZ rfl) rfl (by show 2 * 0 + _ ≤ _; exact Nat.le_of_eq rfl) (hb hby D10_30) (fun _ _ => ⟨rfl, e11, (by decide : 1 + 0 ≤ _), (by decide : 4 + 0 ≤ _)⟩)
  dsimp only [Pt.U, Pt.locs, Pt.cells, Pt.slots] at X14 l14 y14 z14 st14 hQ14
  subst l14 y14 z14
  obtain ⟨r14, rfl, hr14, Nq14, eq14⟩ := hQ14
  have c15 : SS p e below S0 (T14.setTop (mkF m 33 #[vi ch, vr x3, vr q0] [(.int r14)])) := c13.trans (st14)
  have N14 := Fr.app N9 Nq14
  by_cases hq16 : r14 = (0 : Int32)
  · have c17 : SS p e below S0 (T14.setTop (mkF m 10 #[vi ch, vr x3, vr q0] [(.ref x3)])) := c15.trans (by
      show SS p e below (T14.setTop (mkF m 33 #[vi ch, vr x3, vr q0] [(.int r14)])) _
      refine XS.ifYes X14.here hx rfl (pc0 := 33) (pc' := 38) rfl (hb hby D10_33) rfl ((if0 _ _).trans (teq hq16).1) (by decide) (by decide) ?_
      refine XS.goto X14.here hx rfl (pc0 := 38) (pc' := 9) rfl (hb hby D10_38) (by decide) (by decide) ?_
      refine XS.aloadN X14.here hx rfl (hb hby D10_9) rfl rfl ?_
      exact Steps.refl _)
    obtain ⟨cq18, kq18, q18a, q18b, q18c⟩ := isOf hZ eq14 Ei9
    obtain ⟨_, _, ⟨T18, L18, kk18, nn18⟩, -, X18, ⟨Lc18, hQ18, l18, y18, z18⟩, st18⟩ := X14.interfaceBack hx (xi := (⟨"java/util/Iterator", "hasNext", "()Z"⟩ : MethodName)) (y := (⟨"java/util/ImmutableCollections$ListItr", "hasNext", "()Z"⟩ : MethodName)) hown (mvT hZ (ww hw 138 rfl)) (mvT hZ (ww hw 139 rfl)) (mvT hZ (ww hw 140 rfl)) (mvT hZ (ww hw 141 rfl)) (mvT hZ (ww hw 142 rfl)) (mvT hZ (ww hw 143 rfl)) (mvT hZ (ww hw 144 rfl)) (mvT hZ (ww hw 145 rfl)) (by decide) (backOf (W := 0) (rmHas l Z a0 hw [] x3 (1 : Int32) (5 : Int32) T9.heap n0 z9 Fc9 Fs9) hZ (ww hw 146 rfl) (ww hw 115 rfl) (by decide) (by decide)) q18a q18b q18c (g := (mkF m 10 #[vi ch, vr x3, vr q0] [(.ref x3)])) rfl (by rw [hml]; rfl) (Steps.refl _) (argsL := []) (rest := []) (lenOf pd_ocZ rfl) rfl (by show 2 * 0 + _ ≤ _; exact Nat.le_of_eq rfl) (hb hby D10_10) (fun _ _ => ⟨rfl, eq14, (by decide : 1 + 0 ≤ _), (by decide : 4 + 0 ≤ _)⟩)
    dsimp only [Pt.U, Pt.locs, Pt.cells, Pt.slots] at X18 l18 y18 z18 st18 hQ18
    subst l18 y18 z18
    obtain ⟨rfl, Nq18, eq18⟩ := hQ18
    have c19 : SS p e below S0 (T18.setTop (mkF m 15 #[vi ch, vr x3, vr q0] [(.int (if (1 : Int32) = (5 : Int32) then (0 : Int32) else (1 : Int32)))])) := c17.trans (st18)
    have N18 := Fr.app N14 Nq18
    rw [(show (if (1 : Int32) = (5 : Int32) then (0 : Int32) else (1 : Int32)) = (1 : Int32) from by decide)] at c19
    have c20 : SS p e below S0 (T18.setTop (mkF m 19 #[vi ch, vr x3, vr q0] [(.ref x3)])) := c19.trans (by
      show SS p e below (T18.setTop (mkF m 15 #[vi ch, vr x3, vr q0] [(.int 1)])) _
      refine XS.ifNo X18.here hx rfl (hb hby D10_15) rfl ((if0 _ _).trans (feq (by decide : ¬ ((1 : Int32) = (0 : Int32)))).1) ?_
      refine XS.aloadN X18.here hx rfl (hb hby D10_18) rfl rfl ?_
      exact Steps.refl _)
    obtain ⟨cq21, kq21, q21a, q21b, q21c⟩ := isOf hZ eq18 Ei9
    obtain ⟨_, _, ⟨T21, L21, kk21, nn21⟩, -, X21, ⟨Lc21, hQ21, l21, y21, z21⟩, st21⟩ := X18.interfaceBack hx (xi := (⟨"java/util/Iterator", "next", "()Ljava/lang/Object;"⟩ : MethodName)) (y := (⟨"java/util/ImmutableCollections$ListItr", "next", "()Ljava/lang/Object;"⟩ : MethodName)) hown (mvT hZ (ww hw 147 rfl)) (mvT hZ (ww hw 148 rfl)) (mvT hZ (ww hw 149 rfl)) (mvT hZ (ww hw 150 rfl)) (mvT hZ (ww hw 151 rfl)) (mvT hZ (ww hw 152 rfl)) (mvT hZ (ww hw 153 rfl)) (mvT hZ (ww hw 145 rfl)) (by decide) (backOfWith (W := 0) (rmNx l Z a0 hw [] x3 ls ea q0 q1 q2 q3 q4 ke (1 : Int32) q1 T9.heap n0 z9 (Nat.le_trans Z0 (Nat.le_trans K0.1 gx3)) Ei9 Fl9 Fs9 Fc9 (((xls.ext X00.2).keep Kq3).keep Kq9) (((fls.ext X00.2).keep Kq3 nin0).keep Kq9 (ninS (Nat.ne_of_lt (Nat.lt_of_lt_of_le (fls.ext X00.2).lt gx3)) nin0)) (((Vea.ext X00.2).keep Kq3 nin0).keep Kq9 (ninS (Nat.ne_of_lt (Nat.lt_of_lt_of_le (Vea.ext X00.2).lt gx3)) nin0)) ⟨by decide, by decide⟩ rfl) hZ (ww hw 154 rfl) (ww hw 115 rfl) (by decide) (by decide)) q21a q21b q21c (g := (mkF m 19 #[vi ch, vr x3, vr q0] [(.ref x3)])) rfl (by rw [hml]; rfl) (Steps.refl _) (argsL := []) (rest := []) (lenOf pd_ocLjavaslangsObjecte rfl) rfl (by show 2 * 0 + _ ≤ _; exact Nat.le_of_eq rfl) (hb hby D10_19) (fun _ _ => ⟨rfl, eq18, (by decide : 1 + 0 ≤ _), (by decide : 4 + 0 ≤ _)⟩)
    dsimp only [Pt.U, Pt.locs, Pt.cells, Pt.slots] at X21 l21 y21 z21 st21 hQ21
    subst l21 y21 z21
    obtain ⟨rfl, Nq21, Kq21, Ei21, Fl21, Fs21, Fc21⟩ := hQ21
    have c22 : SS p e below S0 (T21.setTop (mkF m 24 #[vi ch, vr x3, vr q0] [(.ref q1)])) := c20.trans (st21)
    have N21 := Fr.app N18 Nq21
    have z21 : n0 ≤ T21.heap.size := Nat.le_trans z9 Kq21.1
    have K21 := K9.trans Kq21 (allS (Or.inr (Nat.le_trans K0.1 gx3)) all0)
    have Fc21 : Fld Z T21.heap x3 "java/util/ImmutableCollections$ListItr" "cursor" "I" (.int 2) := Fc21
    obtain ⟨T23, X23, e23, st23⟩ := castY X21 hx hZ hown (ww hw 163 rfl) rfl (Ins.self ((((xq1.ext X00.2).keep Kq3).keep Kq9).keep Kq21)) (g := (mkF m 24 #[vi ch, vr x3, vr q0] [(.ref q1)])) rfl rfl (hb hby D10_24)
    have c24 : SS p e below S0 (T23.setTop (mkF m 27 #[vi ch, vr x3, vr q0] [(.ref q1)])) := c22.trans (st23 _ (Steps.refl _))
    have c25 : SS p e below S0 (T23.setTop (mkF m 30 #[vi ch, vr x3, vr q1] [(.int ch), (.ref q1)])) := c24.trans (by
      show SS p e below (T23.setTop (mkF m 27 #[vi ch, vr x3, vr q0] [(.ref q1)])) _
      refine XS.astoreN X23.here hx rfl (hb hby D10_27) rfl rfl (l' := #[vi ch, vr x3, vr q1]) rfl ?_
      refine XS.aloadN X23.here hx rfl (hb hby D10_28) rfl rfl ?_
      refine XS.iloadN X23.here hx rfl (hb hby D10_29) rfl ?_
      exact Steps.refl _)
    obtain ⟨cq26, kq26, q26a, q26b, q26c⟩ := isOf hZ e23 ((((xq1.ext X00.2).keep Kq3).keep Kq9).keep Kq21)
    obtain ⟨_, _, ⟨T26, L26, kk26, nn26⟩, -, X26, ⟨Lc26, hQ26, l26, y26, z26⟩, st26⟩ := X23.virtualBack hx (y := (⟨"com/example/pricefold/pricefold/model/Identifier$Span", "holds", "(C)Z"⟩ : MethodName)) (z := (⟨"com/example/pricefold/pricefold/model/Identifier$Span", "holds", "(C)Z"⟩ : MethodName)) hown (mvT hZ (ww hw 165 rfl)) (mvT hZ (ww hw 166 rfl)) (notFace_of_selects (args := #[]) (mvT hZ (ww hw 168 rfl))) (mvT hZ (ww hw 168 rfl)) (mvT hZ (ww hw 167 rfl)) (by decide) (backOf (W := 0) (rmHo l Z a0 hw [] q1 ch (97 : Int32) (122 : Int32) T21.heap n0 z21 ((((fq1_0.ext X00.2).keep Kq3 nin0).keep Kq9 (ninS (Nat.ne_of_lt (Nat.lt_of_lt_of_le (xq1.ext X00.2).lt gx3)) nin0)).keep Kq21 (ninS (Nat.ne_of_lt (Nat.lt_of_lt_of_le (xq1.ext X00.2).lt gx3)) nin0)) ((((fq1_1.ext X00.2).keep Kq3 nin0).keep Kq9 (ninS (Nat.ne_of_lt (Nat.lt_of_lt_of_le (xq1.ext X00.2).lt gx3)) nin0)).keep Kq21 (ninS (Nat.ne_of_lt (Nat.lt_of_lt_of_le (xq1.ext X00.2).lt gx3)) nin0))) hZ (ww hw 170 rfl) (ww hw 169 rfl) (by decide) (by decide)) q26a q26c (g := (mkF m 30 #[vi ch, vr x3, vr q1] [(.int ch), (.ref q1)])) rfl (by rw [hml]; rfl) (Steps.refl _) (argsL := [(.int ch)]) (rest := []) (lenOf pd_oCcZ rfl) rfl (by show 2 * 0 + _ ≤ _; exact Nat.le_of_eq rfl) (hb hby D10_30) (fun _ _ => ⟨rfl, e23, (by decide : 1 + 0 ≤ _), (by decide : 4 + 0 ≤ _)⟩)
    dsimp only [Pt.U, Pt.locs, Pt.cells, Pt.slots] at X26 l26 y26 z26 st26 hQ26
    subst l26 y26 z26
    obtain ⟨r26, rfl, hr26, Nq26, eq26⟩ := hQ26
    have c27 : SS p e below S0 (T26.setTop (mkF m 33 #[vi ch, vr x3, vr q1] [(.int r26)])) := c25.trans (st26)
    have N26 := Fr.app N21 Nq26
    by_cases hq28 : r26 = (0 : Int32)
    · have c29 : SS p e below S0 (T26.setTop (mkF m 10 #[vi ch, vr x3, vr q1] [(.ref x3)])) := c27.trans (by
        show SS p e below (T26.setTop (mkF m 33 #[vi ch, vr x3, vr q1] [(.int r26)])) _
        refine XS.ifYes X26.here hx rfl (pc0 := 33) (pc' := 38) rfl (hb hby D10_33) rfl ((if0 _ _).trans (teq hq28).1) (by decide) (by decide) ?_
        refine XS.goto X26.here hx rfl (pc0 := 38) (pc' := 9) rfl (hb hby D10_38) (by decide) (by decide) ?_
        refine XS.aloadN X26.here hx rfl (hb hby D10_9) rfl rfl ?_
        exact Steps.refl _)
      obtain ⟨cq30, kq30, q30a, q30b, q30c⟩ := isOf hZ eq26 Ei21
      obtain ⟨_, _, ⟨T30, L30, kk30, nn30⟩, -, X30, ⟨Lc30, hQ30, l30, y30, z30⟩, st30⟩ := X26.interfaceBack hx (xi := (⟨"java/util/Iterator", "hasNext", "()Z"⟩ : MethodName)) (y := (⟨"java/util/ImmutableCollections$ListItr", "hasNext", "()Z"⟩ : MethodName)) hown (mvT hZ (ww hw 138 rfl)) (mvT hZ (ww hw 139 rfl)) (mvT hZ (ww hw 140 rfl)) (mvT hZ (ww hw 141 rfl)) (mvT hZ (ww hw 142 rfl)) (mvT hZ (ww hw 143 rfl)) (mvT hZ (ww hw 144 rfl)) (mvT hZ (ww hw 145 rfl)) (by decide) (backOf (W := 0) (rmHas l Z a0 hw [] x3 (2 : Int32) (5 : Int32) T21.heap n0 z21 Fc21 Fs21) hZ (ww hw 146 rfl) (ww hw 115 rfl) (by decide) (by decide)) q30a q30b q30c (g := (mkF m 10 #[vi ch, vr x3, vr q1] [(.ref x3)])) rfl (by rw [hml]; rfl) (Steps.refl _) (argsL := []) (rest := []) (lenOf pd_ocZ rfl) rfl (by show 2 * 0 + _ ≤ _; exact Nat.le_of_eq rfl) (hb hby D10_10) (fun _ _ => ⟨rfl, eq26, (by decide : 1 + 0 ≤ _), (by decide : 4 + 0 ≤ _)⟩)
      dsimp only [Pt.U, Pt.locs, Pt.cells, Pt.slots] at X30 l30 y30 z30 st30 hQ30
      subst l30 y30 z30
      obtain ⟨rfl, Nq30, eq30⟩ := hQ30
      have c31 : SS p e below S0 (T30.setTop (mkF m 15 #[vi ch, vr x3, vr q1] [(.int (if (2 : Int32) = (5 : Int32) then (0 : Int32) else (1 : Int32)))])) := c29.trans (st30)
      have N30 := Fr.app N26 Nq30
      rw [(show (if (2 : Int32) = (5 : Int32) then (0 : Int32) else (1 : Int32)) = (1 : Int32) from by decide)] at c31
      have c32 : SS p e below S0 (T30.setTop (mkF m 19 #[vi ch, vr x3, vr q1] [(.ref x3)])) := c31.trans (by
        show SS p e below (T30.setTop (mkF m 15 #[vi ch, vr x3, vr q1] [(.int 1)])) _
        refine XS.ifNo X30.here hx rfl (hb hby D10_15) rfl ((if0 _ _).trans (feq (by decide : ¬ ((1 : Int32) = (0 : Int32)))).1) ?_
        refine XS.aloadN X30.here hx rfl (hb hby D10_18) rfl rfl ?_
        exact Steps.refl _)
      obtain ⟨cq33, kq33, q33a, q33b, q33c⟩ := isOf hZ eq30 Ei21
      obtain ⟨_, _, ⟨T33, L33, kk33, nn33⟩, -, X33, ⟨Lc33, hQ33, l33, y33, z33⟩, st33⟩ := X30.interfaceBack hx (xi := (⟨"java/util/Iterator", "next", "()Ljava/lang/Object;"⟩ : MethodName)) (y := (⟨"java/util/ImmutableCollections$ListItr", "next", "()Ljava/lang/Object;"⟩ : MethodName)) hown (mvT hZ (ww hw 147 rfl)) (mvT hZ (ww hw 148 rfl)) (mvT hZ (ww hw 149 rfl)) (mvT hZ (ww hw 150 rfl)) (mvT hZ (ww hw 151 rfl)) (mvT hZ (ww hw 152 rfl)) (mvT hZ (ww hw 153 rfl)) (mvT hZ (ww hw 145 rfl)) (by decide) (backOfWith (W := 0) (rmNx l Z a0 hw [] x3 ls ea q0 q1 q2 q3 q4 ke (2 : Int32) q2 T21.heap n0 z21 (Nat.le_trans Z0 (Nat.le_trans K0.1 gx3)) Ei21 Fl21 Fs21 Fc21 ((((xls.ext X00.2).keep Kq3).keep Kq9).keep Kq21) ((((fls.ext X00.2).keep Kq3 nin0).keep Kq9 (ninS (Nat.ne_of_lt (Nat.lt_of_lt_of_le (fls.ext X00.2).lt gx3)) nin0)).keep Kq21 (ninS (Nat.ne_of_lt (Nat.lt_of_lt_of_le (fls.ext X00.2).lt gx3)) nin0)) ((((Vea.ext X00.2).keep Kq3 nin0).keep Kq9 (ninS (Nat.ne_of_lt (Nat.lt_of_lt_of_le (Vea.ext X00.2).lt gx3)) nin0)).keep Kq21 (ninS (Nat.ne_of_lt (Nat.lt_of_lt_of_le (Vea.ext X00.2).lt gx3)) nin0)) ⟨by decide, by decide⟩ rfl) hZ (ww hw 154 rfl) (ww hw 115 rfl) (by decide) (by decide)) q33a q33b q33c (g := (mkF m 19 #[vi ch, vr x3, vr q1] [(.ref x3)])) rfl (by rw [hml]; rfl) (Steps.refl _) (argsL := []) (rest := []) (lenOf pd_ocLjavaslangsObjecte rfl) rfl (by show 2 * 0 + _ ≤ _; exact Nat.le_of_eq rfl) (hb hby D10_19) (fun _ _ => ⟨rfl, eq30, (by decide : 1 + 0 ≤ _), (by decide : 4 + 0 ≤ _)⟩)
      dsimp only [Pt.U, Pt.locs, Pt.cells, Pt.slots] at X33 l33 y33 z33 st33 hQ33
      subst l33 y33 z33
      obtain ⟨rfl, Nq33, Kq33, Ei33, Fl33, Fs33, Fc33⟩ := hQ33
      have c34 : SS p e below S0 (T33.setTop (mkF m 24 #[vi ch, vr x3, vr q1] [(.ref q2)])) := c32.trans (st33)
      have N33 := Fr.app N30 Nq33
      have z33 : n0 ≤ T33.heap.size := Nat.le_trans z21 Kq33.1
      have K33 := K21.trans Kq33 (allS (Or.inr (Nat.le_trans K0.1 gx3)) all0)
      have Fc33 : Fld Z T33.heap x3 "java/util/ImmutableCollections$ListItr" "cursor" "I" (.int 3) := Fc33
      obtain ⟨T35, X35, e35, st35⟩ := castY X33 hx hZ hown (ww hw 163 rfl) rfl (Ins.self (((((xq2.ext X00.2).keep Kq3).keep Kq9).keep Kq21).keep Kq33)) (g := (mkF m 24 #[vi ch, vr x3, vr q1] [(.ref q2)])) rfl rfl (hb hby D10_24)
      have c36 : SS p e below S0 (T35.setTop (mkF m 27 #[vi ch, vr x3, vr q1] [(.ref q2)])) := c34.trans (st35 _ (Steps.refl _))
      have c37 : SS p e below S0 (T35.setTop (mkF m 30 #[vi ch, vr x3, vr q2] [(.int ch), (.ref q2)])) := c36.trans (by
        show SS p e below (T35.setTop (mkF m 27 #[vi ch, vr x3, vr q1] [(.ref q2)])) _
        refine XS.astoreN X35.here hx rfl (hb hby D10_27) rfl rfl (l' := #[vi ch, vr x3, vr q2]) rfl ?_
        refine XS.aloadN X35.here hx rfl (hb hby D10_28) rfl rfl ?_
        refine XS.iloadN X35.here hx rfl (hb hby D10_29) rfl ?_
        exact Steps.refl _)
      obtain ⟨cq38, kq38, q38a, q38b, q38c⟩ := isOf hZ e35 (((((xq2.ext X00.2).keep Kq3).keep Kq9).keep Kq21).keep Kq33)
      obtain ⟨_, _, ⟨T38, L38, kk38, nn38⟩, -, X38, ⟨Lc38, hQ38, l38, y38, z38⟩, st38⟩ := X35.virtualBack hx (y := (⟨"com/example/pricefold/pricefold/model/Identifier$Span", "holds", "(C)Z"⟩ : MethodName)) (z := (⟨"com/example/pricefold/pricefold/model/Identifier$Span", "holds", "(C)Z"⟩ : MethodName)) hown (mvT hZ (ww hw 165 rfl)) (mvT hZ (ww hw 166 rfl)) (notFace_of_selects (args := #[]) (mvT hZ (ww hw 168 rfl))) (mvT hZ (ww hw 168 rfl)) (mvT hZ (ww hw 167 rfl)) (by decide) (backOf (W := 0) (rmHo l Z a0 hw [] q2 ch (48 : Int32) (57 : Int32) T33.heap n0 z33 (((((fq2_0.ext X00.2).keep Kq3 nin0).keep Kq9 (ninS (Nat.ne_of_lt (Nat.lt_of_lt_of_le (xq2.ext X00.2).lt gx3)) nin0)).keep Kq21 (ninS (Nat.ne_of_lt (Nat.lt_of_lt_of_le (xq2.ext X00.2).lt gx3)) nin0)).keep Kq33 (ninS (Nat.ne_of_lt (Nat.lt_of_lt_of_le (xq2.ext X00.2).lt gx3)) nin0)) (((((fq2_1.ext X00.2).keep Kq3 nin0).keep Kq9 (ninS (Nat.ne_of_lt (Nat.lt_of_lt_of_le (xq2.ext X00.2).lt gx3)) nin0)).keep Kq21 (ninS (Nat.ne_of_lt (Nat.lt_of_lt_of_le (xq2.ext X00.2).lt gx3)) nin0)).keep Kq33 (ninS (Nat.ne_of_lt (Nat.lt_of_lt_of_le (xq2.ext X00.2).lt gx3)) nin0))) hZ (ww hw 170 rfl) (ww hw 169 rfl) (by decide) (by decide)) q38a q38c (g := (mkF m 30 #[vi ch, vr x3, vr q2] [(.int ch), (.ref q2)])) rfl (by rw [hml]; rfl) (Steps.refl _) (argsL := [(.int ch)]) (rest := []) (lenOf pd_oCcZ rfl) rfl (by show 2 * 0 + _ ≤ _; exact Nat.le_of_eq rfl) (hb hby D10_30) (fun _ _ => ⟨rfl, e35, (by decide : 1 + 0 ≤ _), (by decide : 4 + 0 ≤ _)⟩)
      dsimp only [Pt.U, Pt.locs, Pt.cells, Pt.slots] at X38 l38 y38 z38 st38 hQ38
      subst l38 y38 z38
      obtain ⟨r38, rfl, hr38, Nq38, eq38⟩ := hQ38
      have c39 : SS p e below S0 (T38.setTop (mkF m 33 #[vi ch, vr x3, vr q2] [(.int r38)])) := c37.trans (st38)
      have N38 := Fr.app N33 Nq38
      by_cases hq40 : r38 = (0 : Int32)
      · have c41 : SS p e below S0 (T38.setTop (mkF m 10 #[vi ch, vr x3, vr q2] [(.ref x3)])) := c39.trans (by
          show SS p e below (T38.setTop (mkF m 33 #[vi ch, vr x3, vr q2] [(.int r38)])) _
          refine XS.ifYes X38.here hx rfl (pc0 := 33) (pc' := 38) rfl (hb hby D10_33) rfl ((if0 _ _).trans (teq hq40).1) (by decide) (by decide) ?_
          refine XS.goto X38.here hx rfl (pc0 := 38) (pc' := 9) rfl (hb hby D10_38) (by decide) (by decide) ?_
          refine XS.aloadN X38.here hx rfl (hb hby D10_9) rfl rfl ?_
          exact Steps.refl _)
        obtain ⟨cq42, kq42, q42a, q42b, q42c⟩ := isOf hZ eq38 Ei33
        obtain ⟨_, _, ⟨T42, L42, kk42, nn42⟩, -, X42, ⟨Lc42, hQ42, l42, y42, z42⟩, st42⟩ := X38.interfaceBack hx (xi := (⟨"java/util/Iterator", "hasNext", "()Z"⟩ : MethodName)) (y := (⟨"java/util/ImmutableCollections$ListItr", "hasNext", "()Z"⟩ : MethodName)) hown (mvT hZ (ww hw 138 rfl)) (mvT hZ (ww hw 139 rfl)) (mvT hZ (ww hw 140 rfl)) (mvT hZ (ww hw 141 rfl)) (mvT hZ (ww hw 142 rfl)) (mvT hZ (ww hw 143 rfl)) (mvT hZ (ww hw 144 rfl)) (mvT hZ (ww hw 145 rfl)) (by decide) (backOf (W := 0) (rmHas l Z a0 hw [] x3 (3 : Int32) (5 : Int32) T33.heap n0 z33 Fc33 Fs33) hZ (ww hw 146 rfl) (ww hw 115 rfl) (by decide) (by decide)) q42a q42b q42c (g := (mkF m 10 #[vi ch, vr x3, vr q2] [(.ref x3)])) rfl (by rw [hml]; rfl) (Steps.refl _) (argsL := []) (rest := []) (lenOf pd_ocZ rfl) rfl (by show 2 * 0 + _ ≤ _; exact Nat.le_of_eq rfl) (hb hby D10_10) (fun _ _ => ⟨rfl, eq38, (by decide : 1 + 0 ≤ _), (by decide : 4 + 0 ≤ _)⟩)
        dsimp only [Pt.U, Pt.locs, Pt.cells, Pt.slots] at X42 l42 y42 z42 st42 hQ42
        subst l42 y42 z42
        obtain ⟨rfl, Nq42, eq42⟩ := hQ42
        have c43 : SS p e below S0 (T42.setTop (mkF m 15 #[vi ch, vr x3, vr q2] [(.int (if (3 : Int32) = (5 : Int32) then (0 : Int32) else (1 : Int32)))])) := c41.trans (st42)
        have N42 := Fr.app N38 Nq42
        rw [(show (if (3 : Int32) = (5 : Int32) then (0 : Int32) else (1 : Int32)) = (1 : Int32) from by decide)] at c43
        have c44 : SS p e below S0 (T42.setTop (mkF m 19 #[vi ch, vr x3, vr q2] [(.ref x3)])) := c43.trans (by
          show SS p e below (T42.setTop (mkF m 15 #[vi ch, vr x3, vr q2] [(.int 1)])) _
          refine XS.ifNo X42.here hx rfl (hb hby D10_15) rfl ((if0 _ _).trans (feq (by decide : ¬ ((1 : Int32) = (0 : Int32)))).1) ?_
          refine XS.aloadN X42.here hx rfl (hb hby D10_18) rfl rfl ?_
          exact Steps.refl _)
        obtain ⟨cq45, kq45, q45a, q45b, q45c⟩ := isOf hZ eq42 Ei33
        obtain ⟨_, _, ⟨T45, L45, kk45, nn45⟩, -, X45, ⟨Lc45, hQ45, l45, y45, z45⟩, st45⟩ := X42.interfaceBack hx (xi := (⟨"java/util/Iterator", "next", "()Ljava/lang/Object;"⟩ : MethodName)) (y := (⟨"java/util/ImmutableCollections$ListItr", "next", "()Ljava/lang/Object;"⟩ : MethodName)) hown (mvT hZ (ww hw 147 rfl)) (mvT hZ (ww hw 148 rfl)) (mvT hZ (ww hw 149 rfl)) (mvT hZ (ww hw 150 rfl)) (mvT hZ (ww hw 151 rfl)) (mvT hZ (ww hw 152 rfl)) (mvT hZ (ww hw 153 rfl)) (mvT hZ (ww hw 145 rfl)) (by decide) (backOfWith (W := 0) (rmNx l Z a0 hw [] x3 ls ea q0 q1 q2 q3 q4 ke (3 : Int32) q3 T33.heap n0 z33 (Nat.le_trans Z0 (Nat.le_trans K0.1 gx3)) Ei33 Fl33 Fs33 Fc33 (((((xls.ext X00.2).keep Kq3).keep Kq9).keep Kq21).keep Kq33) (((((fls.ext X00.2).keep Kq3 nin0).keep Kq9 (ninS (Nat.ne_of_lt (Nat.lt_of_lt_of_le (fls.ext X00.2).lt gx3)) nin0)).keep Kq21 (ninS (Nat.ne_of_lt (Nat.lt_of_lt_of_le (fls.ext X00.2).lt gx3)) nin0)).keep Kq33 (ninS (Nat.ne_of_lt (Nat.lt_of_lt_of_le (fls.ext X00.2).lt gx3)) nin0)) (((((Vea.ext X00.2).keep Kq3 nin0).keep Kq9 (ninS (Nat.ne_of_lt (Nat.lt_of_lt_of_le (Vea.ext X00.2).lt gx3)) nin0)).keep Kq21 (ninS (Nat.ne_of_lt (Nat.lt_of_lt_of_le (Vea.ext X00.2).lt gx3)) nin0)).keep Kq33 (ninS (Nat.ne_of_lt (Nat.lt_of_lt_of_le (Vea.ext X00.2).lt gx3)) nin0)) ⟨by decide, by decide⟩ rfl) hZ (ww hw 154 rfl) (ww hw 115 rfl) (by decide) (by decide)) q45a q45b q45c (g := (mkF m 19 #[vi ch, vr x3, vr q2] [(.ref x3)])) rfl (by rw [hml]; rfl) (Steps.refl _) (argsL := []) (rest := []) (lenOf pd_ocLjavaslangsObjecte rfl) rfl (by show 2 * 0 + _ ≤ _; exact Nat.le_of_eq rfl) (hb hby D10_19) (fun _ _ => ⟨rfl, eq42, (by decide : 1 + 0 ≤ _), (by decide : 4 + 0 ≤ _)⟩)
        dsimp only [Pt.U, Pt.locs, Pt.cells, Pt.slots] at X45 l45 y45 z45 st45 hQ45
        subst l45 y45 z45
        obtain ⟨rfl, Nq45, Kq45, Ei45, Fl45, Fs45, Fc45⟩ := hQ45
        have c46 : SS p e below S0 (T45.setTop (mkF m 24 #[vi ch, vr x3, vr q2] [(.ref q3)])) := c44.trans (st45)
        have N45 := Fr.app N42 Nq45
        have z45 : n0 ≤ T45.heap.size := Nat.le_trans z33 Kq45.1
        have K45 := K33.trans Kq45 (allS (Or.inr (Nat.le_trans K0.1 gx3)) all0)
        have Fc45 : Fld Z T45.heap x3 "java/util/ImmutableCollections$ListItr" "cursor" "I" (.int 4) := Fc45
        obtain ⟨T47, X47, e47, st47⟩ := castY X45 hx hZ hown (ww hw 163 rfl) rfl (Ins.self ((((((xq3.ext X00.2).keep Kq3).keep Kq9).keep Kq21).keep Kq33).keep Kq45)) (g := (mkF m 24 #[vi ch, vr x3, vr q2] [(.ref q3)])) rfl rfl (hb hby D10_24)
        have c48 : SS p e below S0 (T47.setTop (mkF m 27 #[vi ch, vr x3, vr q2] [(.ref q3)])) := c46.trans (st47 _ (Steps.refl _))
        have c49 : SS p e below S0 (T47.setTop (mkF m 30 #[vi ch, vr x3, vr q3] [(.int ch), (.ref q3)])) := c48.trans (by
          show SS p e below (T47.setTop (mkF m 27 #[vi ch, vr x3, vr q2] [(.ref q3)])) _
          refine XS.astoreN X47.here hx rfl (hb hby D10_27) rfl rfl (l' := #[vi ch, vr x3, vr q3]) rfl ?_
          refine XS.aloadN X47.here hx rfl (hb hby D10_28) rfl rfl ?_
          refine XS.iloadN X47.here hx rfl (hb hby D10_29) rfl ?_
          exact Steps.refl _)
        obtain ⟨cq50, kq50, q50a, q50b, q50c⟩ := isOf hZ e47 ((((((xq3.ext X00.2).keep Kq3).keep Kq9).keep Kq21).keep Kq33).keep Kq45)
        obtain ⟨_, _, ⟨T50, L50, kk50, nn50⟩, -, X50, ⟨Lc50, hQ50, l50, y50, z50⟩, st50⟩ := X47.virtualBack hx (y := (⟨"com/example/pricefold/pricefold/model/Identifier$Span", "holds", "(C)Z"⟩ : MethodName)) (z := (⟨"com/example/pricefold/pricefold/model/Identifier$Span", "holds", "(C)Z"⟩ : MethodName)) hown (mvT hZ (ww hw 165 rfl)) (mvT hZ (ww hw 166 rfl)) (notFace_of_selects (args := #[]) (mvT hZ (ww hw 168 rfl))) (mvT hZ (ww hw 168 rfl)) (mvT hZ (ww hw 167 rfl)) (by decide) (backOf (W := 0) (rmHo l Z a0 hw [] q3 ch (45 : Int32) (45 : Int32) T45.heap n0 z45 ((((((fq3_0.ext X00.2).keep Kq3 nin0).keep Kq9 (ninS (Nat.ne_of_lt (Nat.lt_of_lt_of_le (xq3.ext X00.2).lt gx3)) nin0)).keep Kq21 (ninS (Nat.ne_of_lt (Nat.lt_of_lt_of_le (xq3.ext X00.2).lt gx3)) nin0)).keep Kq33 (ninS (Nat.ne_of_lt (Nat.lt_of_lt_of_le (xq3.ext X00.2).lt gx3)) nin0)).keep Kq45 (ninS (Nat.ne_of_lt (Nat.lt_of_lt_of_le (xq3.ext X00.2).lt gx3)) nin0)) ((((((fq3_1.ext X00.2).keep Kq3 nin0).keep Kq9 (ninS (Nat.ne_of_lt (Nat.lt_of_lt_of_le (xq3.ext X00.2).lt gx3)) nin0)).keep Kq21 (ninS (Nat.ne_of_lt (Nat.lt_of_lt_of_le (xq3.ext X00.2).lt gx3)) nin0)).keep Kq33 (ninS (Nat.ne_of_lt (Nat.lt_of_lt_of_le (xq3.ext X00.2).lt gx3)) nin0)).keep Kq45 (ninS (Nat.ne_of_lt (Nat.lt_of_lt_of_le (xq3.ext X00.2).lt gx3)) nin0))) hZ (ww hw 170 rfl) (ww hw 169 rfl) (by decide) (by decide)) q50a q50c (g := (mkF m 30 #[vi ch, vr x3, vr q3] [(.int ch), (.ref q3)])) rfl (by rw [hml]; rfl) (Steps.refl _) (argsL := [(.int ch)]) (rest := []) (lenOf pd_oCcZ rfl) rfl (by show 2 * 0 + _ ≤ _; exact Nat.le_of_eq rfl) (hb hby D10_30) (fun _ _ => ⟨rfl, e47, (by decide : 1 + 0 ≤ _), (by decide : 4 + 0 ≤ _)⟩)
        dsimp only [Pt.U, Pt.locs, Pt.cells, Pt.slots] at X50 l50 y50 z50 st50 hQ50
        subst l50 y50 z50
        obtain ⟨r50, rfl, hr50, Nq50, eq50⟩ := hQ50
        have c51 : SS p e below S0 (T50.setTop (mkF m 33 #[vi ch, vr x3, vr q3] [(.int r50)])) := c49.trans (st50)
        have N50 := Fr.app N45 Nq50
        by_cases hq52 : r50 = (0 : Int32)
        · have c53 : SS p e below S0 (T50.setTop (mkF m 10 #[vi ch, vr x3, vr q3] [(.ref x3)])) := c51.trans (by
            show SS p e below (T50.setTop (mkF m 33 #[vi ch, vr x3, vr q3] [(.int r50)])) _
            refine XS.ifYes X50.here hx rfl (pc0 := 33) (pc' := 38) rfl (hb hby D10_33) rfl ((if0 _ _).trans (teq hq52).1) (by decide) (by decide) ?_
            refine XS.goto X50.here hx rfl (pc0 := 38) (pc' := 9) rfl (hb hby D10_38) (by decide) (by decide) ?_
            refine XS.aloadN X50.here hx rfl (hb hby D10_9) rfl rfl ?_
            exact Steps.refl _)
          obtain ⟨cq54, kq54, q54a, q54b, q54c⟩ := isOf hZ eq50 Ei45
          obtain ⟨_, _, ⟨T54, L54, kk54, nn54⟩, -, X54, ⟨Lc54, hQ54, l54, y54, z54⟩, st54⟩ := X50.interfaceBack hx (xi := (⟨"java/util/Iterator", "hasNext", "()Z"⟩ : MethodName)) (y := (⟨"java/util/ImmutableCollections$ListItr", "hasNext", "()Z"⟩ : MethodName)) hown (mvT hZ (ww hw 138 rfl)) (mvT hZ (ww hw 139 rfl)) (mvT hZ (ww hw 140 rfl)) (mvT hZ (ww hw 141 rfl)) (mvT hZ (ww hw 142 rfl)) (mvT hZ (ww hw 143 rfl)) (mvT hZ (ww hw 144 rfl)) (mvT hZ (ww hw 145 rfl)) (by decide) (backOf (W := 0) (rmHas l Z a0 hw [] x3 (4 : Int32) (5 : Int32) T45.heap n0 z45 Fc45 Fs45) hZ (ww hw 146 rfl) (ww hw 115 rfl) (by decide) (by decide)) q54a q54b q54c (g := (mkF m 10 #[vi ch, vr x3, vr q3] [(.ref x3)])) rfl (by rw [hml]; rfl) (Steps.refl _) (argsL := []) (rest := []) (lenOf pd_ocZ rfl) rfl (by show 2 * 0 + _ ≤ _; exact Nat.le_of_eq rfl) (hb hby D10_10) (fun _ _ => ⟨rfl, eq50, (by decide : 1 + 0 ≤ _), (by decide : 4 + 0 ≤ _)⟩)
          dsimp only [Pt.U, Pt.locs, Pt.cells, Pt.slots] at X54 l54 y54 z54 st54 hQ54
          subst l54 y54 z54
          obtain ⟨rfl, Nq54, eq54⟩ := hQ54
          have c55 : SS p e below S0 (T54.setTop (mkF m 15 #[vi ch, vr x3, vr q3] [(.int (if (4 : Int32) = (5 : Int32) then (0 : Int32) else (1 : Int32)))])) := c53.trans (st54)
          have N54 := Fr.app N50 Nq54
          rw [(show (if (4 : Int32) = (5 : Int32) then (0 : Int32) else (1 : Int32)) = (1 : Int32) from by decide)] at c55
          have c56 : SS p e below S0 (T54.setTop (mkF m 19 #[vi ch, vr x3, vr q3] [(.ref x3)])) := c55.trans (by
            show SS p e below (T54.setTop (mkF m 15 #[vi ch, vr x3, vr q3] [(.int 1)])) _
            refine XS.ifNo X54.here hx rfl (hb hby D10_15) rfl ((if0 _ _).trans (feq (by decide : ¬ ((1 : Int32) = (0 : Int32)))).1) ?_
            refine XS.aloadN X54.here hx rfl (hb hby D10_18) rfl rfl ?_
            exact Steps.refl _)
          obtain ⟨cq57, kq57, q57a, q57b, q57c⟩ := isOf hZ eq54 Ei45
          obtain ⟨_, _, ⟨T57, L57, kk57, nn57⟩, -, X57, ⟨Lc57, hQ57, l57, y57, z57⟩, st57⟩ := X54.interfaceBack hx (xi := (⟨"java/util/Iterator", "next", "()Ljava/lang/Object;"⟩ : MethodName)) (y := (⟨"java/util/ImmutableCollections$ListItr", "next", "()Ljava/lang/Object;"⟩ : MethodName)) hown (mvT hZ (ww hw 147 rfl)) (mvT hZ (ww hw 148 rfl)) (mvT hZ (ww hw 149 rfl)) (mvT hZ (ww hw 150 rfl)) (mvT hZ (ww hw 151 rfl)) (mvT hZ (ww hw 152 rfl)) (mvT hZ (ww hw 153 rfl)) (mvT hZ (ww hw 145 rfl)) (by decide) (backOfWith (W := 0) (rmNx l Z a0 hw [] x3 ls ea q0 q1 q2 q3 q4 ke (4 : Int32) q4 T45.heap n0 z45 (Nat.le_trans Z0 (Nat.le_trans K0.1 gx3)) Ei45 Fl45 Fs45 Fc45 ((((((xls.ext X00.2).keep Kq3).keep Kq9).keep Kq21).keep Kq33).keep Kq45) ((((((fls.ext X00.2).keep Kq3 nin0).keep Kq9 (ninS (Nat.ne_of_lt (Nat.lt_of_lt_of_le (fls.ext X00.2).lt gx3)) nin0)).keep Kq21 (ninS (Nat.ne_of_lt (Nat.lt_of_lt_of_le (fls.ext X00.2).lt gx3)) nin0)).keep Kq33 (ninS (Nat.ne_of_lt (Nat.lt_of_lt_of_le (fls.ext X00.2).lt gx3)) nin0)).keep Kq45 (ninS (Nat.ne_of_lt (Nat.lt_of_lt_of_le (fls.ext X00.2).lt gx3)) nin0)) ((((((Vea.ext X00.2).keep Kq3 nin0).keep Kq9 (ninS (Nat.ne_of_lt (Nat.lt_of_lt_of_le (Vea.ext X00.2).lt gx3)) nin0)).keep Kq21 (ninS (Nat.ne_of_lt (Nat.lt_of_lt_of_le (Vea.ext X00.2).lt gx3)) nin0)).keep Kq33 (ninS (Nat.ne_of_lt (Nat.lt_of_lt_of_le (Vea.ext X00.2).lt gx3)) nin0)).keep Kq45 (ninS (Nat.ne_of_lt (Nat.lt_of_lt_of_le (Vea.ext X00.2).lt gx3)) nin0)) ⟨by decide, by decide⟩ rfl) hZ (ww hw 154 rfl) (ww hw 115 rfl) (by decide) (by decide)) q57a q57b q57c (g := (mkF m 19 #[vi ch, vr x3, vr q3] [(.ref x3)])) rfl (by rw [hml]; rfl) (Steps.refl _) (argsL := []) (rest := []) (lenOf pd_ocLjavaslangsObjecte rfl) rfl (by show 2 * 0 + _ ≤ _; exact Nat.le_of_eq rfl) (hb hby D10_19) (fun _ _ => ⟨rfl, eq54, (by decide : 1 + 0 ≤ _), (by decide : 4 + 0 ≤ _)⟩)
          dsimp only [Pt.U, Pt.locs, Pt.cells, Pt.slots] at X57 l57 y57 z57 st57 hQ57
          subst l57 y57 z57
          obtain ⟨rfl, Nq57, Kq57, Ei57, Fl57, Fs57, Fc57⟩ := hQ57
          have c58 : SS p e below S0 (T57.setTop (mkF m 24 #[vi ch, vr x3, vr q3] [(.ref q4)])) := c56.trans (st57)
          have N57 := Fr.app N54 Nq57
          have z57 : n0 ≤ T57.heap.size := Nat.le_trans z45 Kq57.1
          have K57 := K45.trans Kq57 (allS (Or.inr (Nat.le_trans K0.1 gx3)) all0)
          have Fc57 : Fld Z T57.heap x3 "java/util/ImmutableCollections$ListItr" "cursor" "I" (.int 5) := Fc57
          obtain ⟨T59, X59, e59, st59⟩ := castY X57 hx hZ hown (ww hw 163 rfl) rfl (Ins.self (((((((xq4.ext X00.2).keep Kq3).keep Kq9).keep Kq21).keep Kq33).keep Kq45).keep Kq57)) (g := (mkF m 24 #[vi ch, vr x3, vr q3] [(.ref q4)])) rfl rfl (hb hby D10_24)
          have c60 : SS p e below S0 (T59.setTop (mkF m 27 #[vi ch, vr x3, vr q3] [(.ref q4)])) := c58.trans (st59 _ (Steps.refl _))
          have c61 : SS p e below S0 (T59.setTop (mkF m 30 #[vi ch, vr x3, vr q4] [(.int ch), (.ref q4)])) := c60.trans (by
            show SS p e below (T59.setTop (mkF m 27 #[vi ch, vr x3, vr q3] [(.ref q4)])) _
            refine XS.astoreN X59.here hx rfl (hb hby D10_27) rfl rfl (l' := #[vi ch, vr x3, vr q4]) rfl ?_
            refine XS.aloadN X59.here hx rfl (hb hby D10_28) rfl rfl ?_
            refine XS.iloadN X59.here hx rfl (hb hby D10_29) rfl ?_
            exact Steps.refl _)
          obtain ⟨cq62, kq62, q62a, q62b, q62c⟩ := isOf hZ e59 (((((((xq4.ext X00.2).keep Kq3).keep Kq9).keep Kq21).keep Kq33).keep Kq45).keep Kq57)
          obtain ⟨_, _, ⟨T62, L62, kk62, nn62⟩, -, X62, ⟨Lc62, hQ62, l62, y62, z62⟩, st62⟩ := X59.virtualBack hx (y := (⟨"com/example/pricefold/pricefold/model/Identifier$Span", "holds", "(C)Z"⟩ : MethodName)) (z := (⟨"com/example/pricefold/pricefold/model/Identifier$Span", "holds", "(C)Z"⟩ : MethodName)) hown (mvT hZ (ww hw 165 rfl)) (mvT hZ (ww hw 166 rfl)) (notFace_of_selects (args := #[]) (mvT hZ (ww hw 168 rfl))) (mvT hZ (ww hw 168 rfl)) (mvT hZ (ww hw 167 rfl)) (by decide) (backOf (W := 0) (rmHo l Z a0 hw [] q4 ch (95 : Int32) (95 : Int32) T57.heap n0 z57 (((((((fq4_0.ext X00.2).keep Kq3 nin0).keep Kq9 (ninS (Nat.ne_of_lt (Nat.lt_of_lt_of_le (xq4.ext X00.2).lt gx3)) nin0)).keep Kq21 (ninS (Nat.ne_of_lt (Nat.lt_of_lt_of_le (xq4.ext X00.2).lt gx3)) nin0)).keep Kq33 (ninS (Nat.ne_of_lt (Nat.lt_of_lt_of_le (xq4.ext X00.2).lt gx3)) nin0)).keep Kq45 (ninS (Nat.ne_of_lt (Nat.lt_of_lt_of_le (xq4.ext X00.2).lt gx3)) nin0)).keep Kq57 (ninS (Nat.ne_of_lt (Nat.lt_of_lt_of_le (xq4.ext X00.2).lt gx3)) nin0)) (((((((fq4_1.ext X00.2).keep Kq3 nin0).keep Kq9 (ninS (Nat.ne_of_lt (Nat.lt_of_lt_of_le (xq4.ext X00.2).lt gx3)) nin0)).keep Kq21 (ninS (Nat.ne_of_lt (Nat.lt_of_lt_of_le (xq4.ext X00.2).lt gx3)) nin0)).keep Kq33 (ninS (Nat.ne_of_lt (Nat.lt_of_lt_of_le (xq4.ext X00.2).lt gx3)) nin0)).keep Kq45 (ninS (Nat.ne_of_lt (Nat.lt_of_lt_of_le (xq4.ext X00.2).lt gx3)) nin0)).keep Kq57 (ninS (Nat.ne_of_lt (Nat.lt_of_lt_of_le (xq4.ext X00.2).lt gx3)) nin0))) hZ (ww hw 170 rfl) (ww hw 169 rfl) (by decide) (by decide)) q62a q62c (g := (mkF m 30 #[vi ch, vr x3, vr q4] [(.int ch), (.ref q4)])) rfl (by rw [hml]; rfl) (Steps.refl _) (argsL := [(.int ch)]) (rest := []) (lenOf pd_oCcZ rfl) rfl (by show 2 * 0 + _ ≤ _; exact Nat.le_of_eq rfl) (hb hby D10_30) (fun _ _ => ⟨rfl, e59, (by decide : 1 + 0 ≤ _), (by decide : 4 + 0 ≤ _)⟩)
          dsimp only [Pt.U, Pt.locs, Pt.cells, Pt.slots] at X62 l62 y62 z62 st62 hQ62
          subst l62 y62 z62
          obtain ⟨r62, rfl, hr62, Nq62, eq62⟩ := hQ62
          have c63 : SS p e below S0 (T62.setTop (mkF m 33 #[vi ch, vr x3, vr q4] [(.int r62)])) := c61.trans (st62)
          have N62 := Fr.app N57 Nq62
          by_cases hq64 : r62 = (0 : Int32)
          · have c65 : SS p e below S0 (T62.setTop (mkF m 10 #[vi ch, vr x3, vr q4] [(.ref x3)])) := c63.trans (by
              show SS p e below (T62.setTop (mkF m 33 #[vi ch, vr x3, vr q4] [(.int r62)])) _
              refine XS.ifYes X62.here hx rfl (pc0 := 33) (pc' := 38) rfl (hb hby D10_33) rfl ((if0 _ _).trans (teq hq64).1) (by decide) (by decide) ?_
              refine XS.goto X62.here hx rfl (pc0 := 38) (pc' := 9) rfl (hb hby D10_38) (by decide) (by decide) ?_
              refine XS.aloadN X62.here hx rfl (hb hby D10_9) rfl rfl ?_
              exact Steps.refl _)
            obtain ⟨cq66, kq66, q66a, q66b, q66c⟩ := isOf hZ eq62 Ei57
            obtain ⟨_, _, ⟨T66, L66, kk66, nn66⟩, -, X66, ⟨Lc66, hQ66, l66, y66, z66⟩, st66⟩ := X62.interfaceBack hx (xi := (⟨"java/util/Iterator", "hasNext", "()Z"⟩ : MethodName)) (y := (⟨"java/util/ImmutableCollections$ListItr", "hasNext", "()Z"⟩ : MethodName)) hown (mvT hZ (ww hw 138 rfl)) (mvT hZ (ww hw 139 rfl)) (mvT hZ (ww hw 140 rfl)) (mvT hZ (ww hw 141 rfl)) (mvT hZ (ww hw 142 rfl)) (mvT hZ (ww hw 143 rfl)) (mvT hZ (ww hw 144 rfl)) (mvT hZ (ww hw 145 rfl)) (by decide) (backOf (W := 0) (rmHas l Z a0 hw [] x3 (5 : Int32) (5 : Int32) T57.heap n0 z57 Fc57 Fs57) hZ (ww hw 146 rfl) (ww hw 115 rfl) (by decide) (by decide)) q66a q66b q66c (g := (mkF m 10 #[vi ch, vr x3, vr q4] [(.ref x3)])) rfl (by rw [hml]; rfl) (Steps.refl _) (argsL := []) (rest := []) (lenOf pd_ocZ rfl) rfl (by show 2 * 0 + _ ≤ _; exact Nat.le_of_eq rfl) (hb hby D10_10) (fun _ _ => ⟨rfl, eq62, (by decide : 1 + 0 ≤ _), (by decide : 4 + 0 ≤ _)⟩)
            dsimp only [Pt.U, Pt.locs, Pt.cells, Pt.slots] at X66 l66 y66 z66 st66 hQ66
            subst l66 y66 z66
            obtain ⟨rfl, Nq66, eq66⟩ := hQ66
            have c67 : SS p e below S0 (T66.setTop (mkF m 15 #[vi ch, vr x3, vr q4] [(.int (if (5 : Int32) = (5 : Int32) then (0 : Int32) else (1 : Int32)))])) := c65.trans (st66)
            have N66 := Fr.app N62 Nq66
            rw [(show (if (5 : Int32) = (5 : Int32) then (0 : Int32) else (1 : Int32)) = (0 : Int32) from by decide)] at c67
            have c68 : SS p e below S0 (T66.setTop (mkF m 42 #[vi ch, vr x3, vr q4] [(.int 0)])) := c67.trans (by
              show SS p e below (T66.setTop (mkF m 15 #[vi ch, vr x3, vr q4] [(.int 0)])) _
              refine XS.ifYes X66.here hx rfl (pc0 := 15) (pc' := 41) rfl (hb hby D10_15) rfl ((if0 _ _).trans (teq (by decide : ((0 : Int32) = (0 : Int32)))).1) (by decide) (by decide) ?_
              refine XS.iconst X66.here hx rfl (hb hby D10_41) ?_
              exact Steps.refl _)
            obtain ⟨fs, hr, hrun, hended, hW, hsame⟩ := X66.leave (v := some (.int 0)) (fun h => by rw [Bd.returns] at h; cases h)
            refine ⟨_, _, c68.trans (retOut X66 hx Bd.returns rfl (Or.inl ⟨rfl, by simp, _, rfl⟩) (hb hby D10_42) hr), hrun, hended, _, _, rfl, ?_, ⟨_, rfl⟩, hW, hsame.mono (by first | decide | exact Nat.le_of_ble_eq_true rfl) (by first | decide | exact Nat.le_of_ble_eq_true rfl)⟩
            show QAm Z ch h0 n0 _ T66.heap _
            rw [eq66]
            exact ⟨_, rfl, Or.inr ⟨rfl, (fun z => z.elim (own_n hr14 hq16) (fun z => z.elim (own_n hr26 hq28) (fun z => z.elim (own_n hr38 hq40) (fun z => z.elim (own_n hr50 hq52) (own_n hr62 hq64)))))⟩, N66, K57⟩
          · have c69 : SS p e below S0 (T62.setTop (mkF m 37 #[vi ch, vr x3, vr q4] [(.int 1)])) := c63.trans (by
              show SS p e below (T62.setTop (mkF m 33 #[vi ch, vr x3, vr q4] [(.int r62)])) _
              refine XS.ifNo X62.here hx rfl (hb hby D10_33) rfl ((if0 _ _).trans (feq hq64).1) ?_
              refine XS.iconst X62.here hx rfl (hb hby D10_36) ?_
              exact Steps.refl _)
            obtain ⟨fs, hr, hrun, hended, hW, hsame⟩ := X62.leave (v := some (.int 1)) (fun h => by rw [Bd.returns] at h; cases h)
            refine ⟨_, _, c69.trans (retOut X62 hx Bd.returns rfl (Or.inl ⟨rfl, by simp, _, rfl⟩) (hb hby D10_37) hr), hrun, hended, _, _, rfl, ?_, ⟨_, rfl⟩, hW, hsame.mono (by first | decide | exact Nat.le_of_ble_eq_true rfl) (by first | decide | exact Nat.le_of_ble_eq_true rfl)⟩
            show QAm Z ch h0 n0 _ T62.heap _
            rw [eq62]
            exact ⟨_, rfl, Or.inl ⟨rfl, Or.inr (Or.inr (Or.inr (Or.inr (own_y hr62 hq64))))⟩, N62, K57⟩
        · have c70 : SS p e below S0 (T50.setTop (mkF m 37 #[vi ch, vr x3, vr q3] [(.int 1)])) := c51.trans (by
            show SS p e below (T50.setTop (mkF m 33 #[vi ch, vr x3, vr q3] [(.int r50)])) _
            refine XS.ifNo X50.here hx rfl (hb hby D10_33) rfl ((if0 _ _).trans (feq hq52).1) ?_
            refine XS.iconst X50.here hx rfl (hb hby D10_36) ?_
            exact Steps.refl _)
          obtain ⟨fs, hr, hrun, hended, hW, hsame⟩ := X50.leave (v := some (.int 1)) (fun h => by rw [Bd.returns] at h; cases h)
          refine ⟨_, _, c70.trans (retOut X50 hx Bd.returns rfl (Or.inl ⟨rfl, by simp, _, rfl⟩) (hb hby D10_37) hr), hrun, hended, _, _, rfl, ?_, ⟨_, rfl⟩, hW, hsame.mono (by first | decide | exact Nat.le_of_ble_eq_true rfl) (by first | decide | exact Nat.le_of_ble_eq_true rfl)⟩
          show QAm Z ch h0 n0 _ T50.heap _
          rw [eq50]
          exact ⟨_, rfl, Or.inl ⟨rfl, Or.inr (Or.inr (Or.inr (Or.inl (own_y hr50 hq52))))⟩, N50, K45⟩
      · have c71 : SS p e below S0 (T38.setTop (mkF m 37 #[vi ch, vr x3, vr q2] [(.int 1)])) := c39.trans (by
          show SS p e below (T38.setTop (mkF m 33 #[vi ch, vr x3, vr q2] [(.int r38)])) _
          refine XS.ifNo X38.here hx rfl (hb hby D10_33) rfl ((if0 _ _).trans (feq hq40).1) ?_
          refine XS.iconst X38.here hx rfl (hb hby D10_36) ?_
          exact Steps.refl _)
        obtain ⟨fs, hr, hrun, hended, hW, hsame⟩ := X38.leave (v := some (.int 1)) (fun h => by rw [Bd.returns] at h; cases h)
        refine ⟨_, _, c71.trans (retOut X38 hx Bd.returns rfl (Or.inl ⟨rfl, by simp, _, rfl⟩) (hb hby D10_37) hr), hrun, hended, _, _, rfl, ?_, ⟨_, rfl⟩, hW, hsame.mono (by first | decide | exact Nat.le_of_ble_eq_true rfl) (by first | decide | exact Nat.le_of_ble_eq_true rfl)⟩
        show QAm Z ch h0 n0 _ T38.heap _
        rw [eq38]
        exact ⟨_, rfl, Or.inl ⟨rfl, Or.inr (Or.inr (Or.inl (own_y hr38 hq40)))⟩, N38, K33⟩
    · have c72 : SS p e below S0 (T26.setTop (mkF m 37 #[vi ch, vr x3, vr q1] [(.int 1)])) := c27.trans (by
        show SS p e below (T26.setTop (mkF m 33 #[vi ch, vr x3, vr q1] [(.int r26)])) _
        refine XS.ifNo X26.here hx rfl (hb hby D10_33) rfl ((if0 _ _).trans (feq hq28).1) ?_
        refine XS.iconst X26.here hx rfl (hb hby D10_36) ?_
        exact Steps.refl _)
      obtain ⟨fs, hr, hrun, hended, hW, hsame⟩ := X26.leave (v := some (.int 1)) (fun h => by rw [Bd.returns] at h; cases h)
      refine ⟨_, _, c72.trans (retOut X26 hx Bd.returns rfl (Or.inl ⟨rfl, by simp, _, rfl⟩) (hb hby D10_37) hr), hrun, hended, _, _, rfl, ?_, ⟨_, rfl⟩, hW, hsame.mono (by first | decide | exact Nat.le_of_ble_eq_true rfl) (by first | decide | exact Nat.le_of_ble_eq_true rfl)⟩
      show QAm Z ch h0 n0 _ T26.heap _
      rw [eq26]
      exact ⟨_, rfl, Or.inl ⟨rfl, Or.inr (Or.inl (own_y hr26 hq28))⟩, N26, K21⟩
  · have c73 : SS p e below S0 (T14.setTop (mkF m 37 #[vi ch, vr x3, vr q0] [(.int 1)])) := c15.trans (by
      show SS p e below (T14.setTop (mkF m 33 #[vi ch, vr x3, vr q0] [(.int r14)])) _
      refine XS.ifNo X14.here hx rfl (hb hby D10_33) rfl ((if0 _ _).trans (feq hq16).1) ?_
      refine XS.iconst X14.here hx rfl (hb hby D10_36) ?_
      exact Steps.refl _)
    obtain ⟨fs, hr, hrun, hended, hW, hsame⟩ := X14.leave (v := some (.int 1)) (fun h => by rw [Bd.returns] at h; cases h)
    refine ⟨_, _, c73.trans (retOut X14 hx Bd.returns rfl (Or.inl ⟨rfl, by simp, _, rfl⟩) (hb hby D10_37) hr), hrun, hended, _, _, rfl, ?_, ⟨_, rfl⟩, hW, hsame.mono (by first | decide | exact Nat.le_of_ble_eq_true rfl) (by first | decide | exact Nat.le_of_ble_eq_true rfl)⟩
    show QAm Z ch h0 n0 _ T14.heap _
    rw [eq14]
    exact ⟨_, rfl, Or.inl ⟨rfl, Or.inl (own_y hr14 hq16)⟩, N14, K9⟩

theorem D11_0 : decode prog_48_method_5_code 0 = .ok (.aload_n 1, 1) := by decide +kernel
theorem D11_1 : decode prog_48_method_5_code 1 = .ok (.invokevirtual 46, 3) := by decide +kernel
theorem D11_4 : decode prog_48_method_5_code 4 = .ok (.iconst 1, 1) := by decide +kernel
theorem D11_5 : decode prog_48_method_5_code 5 = .ok (.if_icmp .lt 14, 3) := by decide +kernel
theorem D11_8 : decode prog_48_method_5_code 8 = .ok (.aload_n 1, 1) := by decide +kernel
theorem D11_9 : decode prog_48_method_5_code 9 = .ok (.invokevirtual 46, 3) := by decide +kernel
theorem D11_12 : decode prog_48_method_5_code 12 = .ok (.aload_n 0, 1) := by decide +kernel
theorem D11_13 : decode prog_48_method_5_code 13 = .ok (.getfield 32, 3) := by decide +kernel
theorem D11_16 : decode prog_48_method_5_code 16 = .ok (.if_icmp .le 5, 3) := by decide +kernel
theorem D11_19 : decode prog_48_method_5_code 19 = .ok (.iconst 0, 1) := by decide +kernel
theorem D11_20 : decode prog_48_method_5_code 20 = .ok (.ireturn, 1) := by decide +kernel
theorem ef_rmMaL (m : MethodId) (x0 : Addr) (x1 : Addr) : entryFrame m #[(.ref x0), (.ref x1)] 3 = mkF m 0 #[.val (.ref x0), .val (.ref x1), .unset] [] := by first | (simp [entryFrame, mkF, argsToLocals, Value.category]; done) | rfl
set_option maxRecDepth 65536 in
set_option maxHeartbeats 40000000 in
theorem rmMaL (l : Launch) (Z : State) (a0 : Array Value) (hw : ∀ d ∈ tables_1, d.before a0 Z = true) (ws : List Jvm.Cond) (u sx tx : Addr) (kx : ClassId) (cs : List Int32) (G1 : Int32) (h0 : Heap) (n0 : Nat) (Z0 : n0 ≤ h0.size) (Fm : Fld Z h0 u "com/example/pricefold/pricefold/model/Identifier" "mostCharacters" "I" (.int 64)) (Sx : OStr Z h0 sx tx kx cs) (hl : cs.length = 65) (O2 : Sta Z Z.heap "java/lang/String" "COMPACT_STRINGS" "Z" (.int G1)) (P5 : ¬ G1 = 0) (X00 : Old Z n0 h0) :
    MetFree l (⟨"com/example/pricefold/pricefold/model/Identifier", "matches", "(Ljava/lang/String;)Z"⟩ : MethodName) (head1 (Jvm.Cond.code (⟨"com/example/pricefold/pricefold/model/Identifier", "matches", "(Ljava/lang/String;)Z"⟩ : MethodName) prog_48_method_5_code 3 (some .boolean) :: ws) ({ frames := 2, cells := 0, slots := 0, locals := 25 } : Room)) (fun aa U => aa = #[(.ref u), (.ref sx)] ∧ Z.Warmed39 U.vm ∧ U.heap = h0) (fun _ _ _ _ _ => True) (fun _ U o U' => ∃ v L, o = .returned v ∧ QInt Z 0 h0 n0 v U'.heap L ∧ FrameEnd U o U' L ({ frames := 2, cells := 0, slots := 0, locals := 25 } : Room).cells ({ frames := 2, cells := 0, slots := 0, locals := 25 } : Room).slots) := by
  refine MetFree.of_bodySF (plainFor_of_name pn_com_example_pricefold_pricefold_model_Identifier) hisR ?_
  intro p e s m args below meth c s₁ Bd hml0 hP hK
  obtain ⟨rfl, hZ, hh⟩ := hP
  have hx := Bd.exec
  have hby := Bd.bytes
  have hml : c.maxLocals = 3 := hml0
  have hown : s.vm.findClass "com/example/pricefold/pricefold/model/Identifier" = some m.cls := findClass_of_methodNamed Bd.named
  have hnm := (name_of_methodNamed Bd.named Bd.method).1
  have X0 : Stand p l e ({ frames := 2, cells := 0, slots := 0, locals := 25 } : Room) s m #[(.ref u), (.ref sx)] below meth c s₁ [] 0 0 := Stand.of_body Bd
  have e0 : s₁.heap = h0 := by rw [← hh, Bd.state]; rfl
  have N0 := Fr.nil n0
  have K0 := Keep.refl h0 []
  obtain ⟨S0, hS0⟩ : ∃ z, z = s₁.setTop (entryFrame m #[(.ref u), (.ref sx)] 3) := ⟨_, rfl⟩
  rw [← hS0]
  have c0 : SS p e below S0 (s₁.setTop (mkF m 0 #[vr u, vr sx, .unset] [])) := by
    rw [hS0]; exact castTop (ef_rmMaL m u sx) (Steps.refl _)
  have c1 : SS p e below S0 (s₁.setTop (mkF m 1 #[vr u, vr sx, .unset] [(.ref sx)])) := c0.trans (by
    show SS p e below (s₁.setTop (mkF m 0 #[vr u, vr sx, .unset] [])) _
    refine XS.aloadN X0.here hx rfl (hb hby D11_0) rfl rfl ?_
    exact Steps.refl _)
  have hln2 : ∀ d ∈ StrChars.Road.wordsLen, d.before a0 Z = true := fun d hd => hw d (own_in_wordsLen d hd)
  obtain ⟨cq3, kq3, q3a, q3b, q3c⟩ := isOf hZ e0 Sx.1
  obtain ⟨_, _, ⟨T3, L3, kk3, nn3⟩, -, X3, ⟨Lc3, hQ3, l3, y3, z3⟩, st3⟩ := X0.virtualBack hx (y := (⟨"java/lang/String", "length", "()I"⟩ : MethodName)) (z := (⟨"java/lang/String", "length", "()I"⟩ : MethodName)) hown (mvT hZ (ww hw 75 rfl)) (mvT hZ (ww hw 61 rfl)) (notFace_of_selects (args := #[]) (mvT hZ (ww hw 63 rfl))) (mvT hZ (ww hw 63 rfl)) (mvT hZ (ww hw 62 rfl)) (by decide) (StrChars.Road.lenW (W := 0) hZ hln2 (kI := 4) (ww hw 6 rfl) Sx.1 Sx.2.1 Sx.2.2.1 Sx.2.2.2.1 Sx.cod (own_up _ Sx.2.2.2.2.1) (O2.ext X00.2) P5 Sx.2.2.2.2.2 (by decide) (by decide)) q3a q3c (g := (mkF m 1 #[vr u, vr sx, .unset] [(.ref sx)])) rfl (by rw [hml]; rfl) (Steps.refl _) (argsL := []) (rest := []) (lenOf pd_ocI rfl) rfl (by show 2 * 0 + _ ≤ _; exact Nat.le_of_eq rfl) (hb hby D11_1) (fun _ _ => ⟨rfl, e0, (by decide : 0 + 0 ≤ _), (by decide : 0 + 0 ≤ _)⟩)
  dsimp only [Pt.U, Pt.locs, Pt.cells, Pt.slots] at X3 l3 y3 z3 st3 hQ3
  subst l3 y3 z3
  obtain ⟨rfl, Lq3, eq3⟩ := hQ3
  have c4 : SS p e below S0 (T3.setTop (mkF m 4 #[vr u, vr sx, .unset] [(.int (Int32.ofNat cs.length))])) := c1.trans (st3)
  have N3 := Fr.app N0 (Lq3 ▸ Fr.nil n0)
  rw [(show Int32.ofNat cs.length = (65 : Int32) by rw [hl]; rfl)] at c4
  have c5 : SS p e below S0 (T3.setTop (mkF m 9 #[vr u, vr sx, .unset] [(.ref sx)])) := c4.trans (by
    show SS p e below (T3.setTop (mkF m 4 #[vr u, vr sx, .unset] [(.int 65)])) _
    refine XS.iconst X3.here hx rfl (hb hby D11_4) ?_
    refine XS.icmpNo X3.here hx rfl (hb hby D11_5) rfl (flt (by decide : ¬ ((65 : Int32) < (1 : Int32)))).1 ?_
    refine XS.aloadN X3.here hx rfl (hb hby D11_8) rfl rfl ?_
    exact Steps.refl _)
  have hln6 : ∀ d ∈ StrChars.Road.wordsLen, d.before a0 Z = true := fun d hd => hw d (own_in_wordsLen d hd)
  obtain ⟨cq7, kq7, q7a, q7b, q7c⟩ := isOf hZ eq3 Sx.1
  obtain ⟨_, _, ⟨T7, L7, kk7, nn7⟩, -, X7, ⟨Lc7, hQ7, l7, y7, z7⟩, st7⟩ := X3.virtualBack hx (y := (⟨"java/lang/String", "length", "()I"⟩ : MethodName)) (z := (⟨"java/lang/String", "length", "()I"⟩ : MethodName)) hown (mvT hZ (ww hw 75 rfl)) (mvT hZ (ww hw 61 rfl)) (notFace_of_selects (args := #[]) (mvT hZ (ww hw 63 rfl))) (mvT hZ (ww hw 63 rfl)) (mvT hZ (ww hw 62 rfl)) (by decide) (StrChars.Road.lenW (W := 0) hZ hln6 (kI := 4) (ww hw 6 rfl) Sx.1 Sx.2.1 Sx.2.2.1 Sx.2.2.2.1 Sx.cod (own_up _ Sx.2.2.2.2.1) (O2.ext X00.2) P5 Sx.2.2.2.2.2 (by decide) (by decide)) q7a q7c (g := (mkF m 9 #[vr u, vr sx, .unset] [(.ref sx)])) rfl (by rw [hml]; rfl) (Steps.refl _) (argsL := []) (rest := []) (lenOf pd_ocI rfl) rfl (by show 2 * 0 + _ ≤ _; exact Nat.le_of_eq rfl) (hb hby D11_9) (fun _ _ => ⟨rfl, eq3, (by decide : 0 + 0 ≤ _), (by decide : 0 + 0 ≤ _)⟩)
  dsimp only [Pt.U, Pt.locs, Pt.cells, Pt.slots] at X7 l7 y7 z7 st7 hQ7
  subst l7 y7 z7
  obtain ⟨rfl, Lq7, eq7⟩ := hQ7
  have c8 : SS p e below S0 (T7.setTop (mkF m 12 #[vr u, vr sx, .unset] [(.int (Int32.ofNat cs.length))])) := c5.trans (st7)
  have N7 := Fr.app N3 (Lq7 ▸ Fr.nil n0)
  rw [(show Int32.ofNat cs.length = (65 : Int32) by rw [hl]; rfl)] at c8
  have c9 : SS p e below S0 (T7.setTop (mkF m 13 #[vr u, vr sx, .unset] [(.ref u), (.int 65)])) := c8.trans (by
    show SS p e below (T7.setTop (mkF m 12 #[vr u, vr sx, .unset] [(.int 65)])) _
    refine XS.aloadN X7.here hx rfl (hb hby D11_12) rfl rfl ?_
    exact Steps.refl _)
  obtain ⟨T10, X10, e10, st10⟩ := getF X7 hx hZ hown (host := "") (Or.inl (ww hw 54 rfl)) Via.refl eq7 Fm (g := (mkF m 13 #[vr u, vr sx, .unset] [(.ref u), (.int 65)])) rfl rfl (hb hby D11_13)
  have c11 : SS p e below S0 (T10.setTop (mkF m 16 #[vr u, vr sx, .unset] [(.int 64), (.int 65)])) := c9.trans (st10 _ (Steps.refl _))
  have c12 : SS p e below S0 (T10.setTop (mkF m 20 #[vr u, vr sx, .unset] [(.int 0)])) := c11.trans (by
    show SS p e below (T10.setTop (mkF m 16 #[vr u, vr sx, .unset] [(.int 64), (.int 65)])) _
    refine XS.icmpNo X10.here hx rfl (hb hby D11_16) rfl (tlt (by decide : ((64 : Int32) < (65 : Int32)))).2.2.2 ?_
    refine XS.iconst X10.here hx rfl (hb hby D11_19) ?_
    exact Steps.refl _)
  obtain ⟨fs, hr, hrun, hended, hW, hsame⟩ := X10.leave (v := some (.int 0)) (fun h => by rw [Bd.returns] at h; cases h)
  refine ⟨_, _, c12.trans (retOut X10 hx Bd.returns rfl (Or.inl ⟨rfl, by simp, _, rfl⟩) (hb hby D11_20) hr), hrun, hended, _, _, rfl, ?_, ⟨_, rfl⟩, hW, hsame.mono (by first | decide | exact Nat.le_of_ble_eq_true rfl) (by first | decide | exact Nat.le_of_ble_eq_true rfl)⟩
  show QInt Z 0 h0 n0 _ T10.heap _
  rw [e10]
  exact ⟨rfl, N7, rfl⟩

theorem own_gmem {cs : List Int32} {k : Nat} (h : k < cs.length) : cs.getD k 0 ∈ cs := by
  rw [List.getD_eq_getElem?_getD, List.getElem?_eq_getElem h]; exact List.getElem_mem h

theorem D11_21 : decode prog_48_method_5_code 21 = .ok (.iconst 0, 1) := by decide +kernel
theorem D11_22 : decode prog_48_method_5_code 22 = .ok (.istore_n 2, 1) := by decide +kernel
theorem D11_23 : decode prog_48_method_5_code 23 = .ok (.iload_n 2, 1) := by decide +kernel
theorem D11_24 : decode prog_48_method_5_code 24 = .ok (.aload_n 1, 1) := by decide +kernel
theorem D11_25 : decode prog_48_method_5_code 25 = .ok (.invokevirtual 46, 3) := by decide +kernel
theorem D11_28 : decode prog_48_method_5_code 28 = .ok (.if_icmp .ge 22, 3) := by decide +kernel
theorem D11_31 : decode prog_48_method_5_code 31 = .ok (.aload_n 1, 1) := by decide +kernel
theorem D11_32 : decode prog_48_method_5_code 32 = .ok (.iload_n 2, 1) := by decide +kernel
theorem pd_oIcC : parseMethodDescriptor "(I)C" = some ⟨[.int], some .char⟩ := by decide +kernel
theorem D11_33 : decode prog_48_method_5_code 33 = .ok (.invokevirtual 52, 3) := by decide +kernel
theorem D11_36 : decode prog_48_method_5_code 36 = .ok (.invokestatic 56, 3) := by decide +kernel
theorem D11_39 : decode prog_48_method_5_code 39 = .ok (.ifCond .ne 5, 3) := by decide +kernel
theorem D11_44 : decode prog_48_method_5_code 44 = .ok (.iinc 2 1, 3) := by decide +kernel
theorem D11_47 : decode prog_48_method_5_code 47 = .ok (.goto (-24), 3) := by decide +kernel
theorem D11_50 : decode prog_48_method_5_code 50 = .ok (.iconst 1, 1) := by decide +kernel
theorem D11_51 : decode prog_48_method_5_code 51 = .ok (.ireturn, 1) := by decide +kernel
theorem ef_rmMa (m : MethodId) (x0 : Addr) (x1 : Addr) : entryFrame m #[(.ref x0), (.ref x1)] 3 = mkF m 0 #[.val (.ref x0), .val (.ref x1), .unset] [] := by first | (simp [entryFrame, mkF, argsToLocals, Value.category]; done) | rfl
set_option maxRecDepth 65536 in
set_option maxHeartbeats 40000000 in
theorem rmMa (l : Launch) (Z : State) (a0 : Array Value) (hw : ∀ d ∈ tables_1, d.before a0 Z = true) (ws : List Jvm.Cond) (u sx tx : Addr) (kx : ClassId) (cs : List Int32) (ls ea q0 q1 q2 q3 q4 : Addr) (ke : ClassId) (G1 : Int32) (G3 : Value) (h0 : Heap) (n0 : Nat) (Z0 : n0 ≤ h0.size) (Fm : Fld Z h0 u "com/example/pricefold/pricefold/model/Identifier" "mostCharacters" "I" (.int 64)) (Sx : OStr Z h0 sx tx kx cs) (hl : cs.length = 64) (ham : ∀ ch ∈ cs, own_am ch) (sC : Sta Z Z.heap "com/example/pricefold/pricefold/model/Identifier" "CHARACTERS" "Ljava/util/List;" (.ref ls)) (xls : Exa Z Z.heap ls "java/util/ImmutableCollections$ListN") (fls : Fld Z Z.heap ls "java/util/ImmutableCollections$ListN" "elements" "[Ljava/lang/Object;" (.ref ea)) (Vea : Arv Z Z.heap ea ke (.object "java/lang/Object") (5 : Int32) [.ref q0, .ref q1, .ref q2, .ref q3, .ref q4] .null) (xq0 : Exa Z Z.heap q0 "com/example/pricefold/pricefold/model/Identifier$Span") (xq1 : Exa Z Z.heap q1 "com/example/pricefold/pricefold/model/Identifier$Span") (xq2 : Exa Z Z.heap q2 "com/example/pricefold/pricefold/model/Identifier$Span") (xq3 : Exa Z Z.heap q3 "com/example/pricefold/pricefold/model/Identifier$Span") (xq4 : Exa Z Z.heap q4 "com/example/pricefold/pricefold/model/Identifier$Span") (fq0_0 : Fld Z Z.heap q0 "com/example/pricefold/pricefold/model/Identifier$Span" "first" "C" (.int 65)) (fq0_1 : Fld Z Z.heap q0 "com/example/pricefold/pricefold/model/Identifier$Span" "last" "C" (.int 90)) (fq1_0 : Fld Z Z.heap q1 "com/example/pricefold/pricefold/model/Identifier$Span" "first" "C" (.int 97)) (fq1_1 : Fld Z Z.heap q1 "com/example/pricefold/pricefold/model/Identifier$Span" "last" "C" (.int 122)) (fq2_0 : Fld Z Z.heap q2 "com/example/pricefold/pricefold/model/Identifier$Span" "first" "C" (.int 48)) (fq2_1 : Fld Z Z.heap q2 "com/example/pricefold/pricefold/model/Identifier$Span" "last" "C" (.int 57)) (fq3_0 : Fld Z Z.heap q3 "com/example/pricefold/pricefold/model/Identifier$Span" "first" "C" (.int 45)) (fq3_1 : Fld Z Z.heap q3 "com/example/pricefold/pricefold/model/Identifier$Span" "last" "C" (.int 45)) (fq4_0 : Fld Z Z.heap q4 "com/example/pricefold/pricefold/model/Identifier$Span" "first" "C" (.int 95)) (fq4_1 : Fld Z Z.heap q4 "com/example/pricefold/pricefold/model/Identifier$Span" "last" "C" (.int 95)) (O2 : Sta Z Z.heap "java/lang/String" "COMPACT_STRINGS" "Z" (.int G1)) (P5 : ¬ G1 = 0) (X00 : Old Z n0 h0) (O4 : Sta Z Z.heap "jdk/internal/util/Preconditions" "SIOOBE_FORMATTER" "Ljava/util/function/BiFunction;" G3) (rG3 : G3.isRef = true) :
    MetFree l (⟨"com/example/pricefold/pricefold/model/Identifier", "matches", "(Ljava/lang/String;)Z"⟩ : MethodName) (head1 (Jvm.Cond.code (⟨"com/example/pricefold/pricefold/model/Identifier", "matches", "(Ljava/lang/String;)Z"⟩ : MethodName) prog_48_method_5_code 3 (some .boolean) :: ws) ({ frames := 4, cells := 64, slots := 256, locals := 53 } : Room)) (fun aa U => aa = #[(.ref u), (.ref sx)] ∧ Z.Warmed39 U.vm ∧ U.heap = h0) (fun _ _ _ _ _ => True) (fun _ U o U' => ∃ v L, o = .returned v ∧ QKI Z 1 h0 n0 v U'.heap L ∧ FrameEnd U o U' L ({ frames := 4, cells := 64, slots := 256, locals := 53 } : Room).cells ({ frames := 4, cells := 64, slots := 256, locals := 53 } : Room).slots) := by
  refine MetFree.of_bodySF (plainFor_of_name pn_com_example_pricefold_pricefold_model_Identifier) hisR ?_
  intro p e s m args below meth c s₁ Bd hml0 hP hK
  obtain ⟨rfl, hZ, hh⟩ := hP
  have hx := Bd.exec
  have hby := Bd.bytes
  have hml : c.maxLocals = 3 := hml0
  have hown : s.vm.findClass "com/example/pricefold/pricefold/model/Identifier" = some m.cls := findClass_of_methodNamed Bd.named
  have hnm := (name_of_methodNamed Bd.named Bd.method).1
  have X0 : Stand p l e ({ frames := 4, cells := 64, slots := 256, locals := 53 } : Room) s m #[(.ref u), (.ref sx)] below meth c s₁ [] 0 0 := Stand.of_body Bd
  have e0 : s₁.heap = h0 := by rw [← hh, Bd.state]; rfl
  have N0 := Fr.nil n0
  have K0 := Keep.refl h0 []
  obtain ⟨S0, hS0⟩ : ∃ z, z = s₁.setTop (entryFrame m #[(.ref u), (.ref sx)] 3) := ⟨_, rfl⟩
  rw [← hS0]
  have c0 : SS p e below S0 (s₁.setTop (mkF m 0 #[vr u, vr sx, .unset] [])) := by
    rw [hS0]; exact castTop (ef_rmMa m u sx) (Steps.refl _)
  have c1 : SS p e below S0 (s₁.setTop (mkF m 1 #[vr u, vr sx, .unset] [(.ref sx)])) := c0.trans (by
    show SS p e below (s₁.setTop (mkF m 0 #[vr u, vr sx, .unset] [])) _
    refine XS.aloadN X0.here hx rfl (hb hby D11_0) rfl rfl ?_
    exact Steps.refl _)
  have hln2 : ∀ d ∈ StrChars.Road.wordsLen, d.before a0 Z = true := fun d hd => hw d (own_in_wordsLen d hd)
  obtain ⟨cq3, kq3, q3a, q3b, q3c⟩ := isOf hZ e0 Sx.1
  obtain ⟨_, _, ⟨T3, L3, kk3, nn3⟩, -, X3, ⟨Lc3, hQ3, l3, y3, z3⟩, st3⟩ := X0.virtualBack hx (y := (⟨"java/lang/String", "length", "()I"⟩ : MethodName)) (z := (⟨"java/lang/String", "length", "()I"⟩ : MethodName)) hown (mvT hZ (ww hw 75 rfl)) (mvT hZ (ww hw 61 rfl)) (notFace_of_selects (args := #[]) (mvT hZ (ww hw 63 rfl))) (mvT hZ (ww hw 63 rfl)) (mvT hZ (ww hw 62 rfl)) (by decide) (StrChars.Road.lenW (W := 0) hZ hln2 (kI := 4) (ww hw 6 rfl) Sx.1 Sx.2.1 Sx.2.2.1 Sx.2.2.2.1 Sx.cod (own_up _ Sx.2.2.2.2.1) (O2.ext X00.2) P5 Sx.2.2.2.2.2 (by decide) (by decide)) q3a q3c (g := (mkF m 1 #[vr u, vr sx, .unset] [(.ref sx)])) rfl (by rw [hml]; rfl) (Steps.refl _) (argsL := []) (rest := []) (lenOf pd_ocI rfl) rfl (by show 2 * 0 + _ ≤ _; exact Nat.le_of_eq rfl) (hb hby D11_1) (fun _ _ => ⟨rfl, e0, (by decide : 0 + 0 ≤ _), (by decide : 0 + 0 ≤ _)⟩)
  dsimp only [Pt.U, Pt.locs, Pt.cells, Pt.slots] at X3 l3 y3 z3 st3 hQ3
  subst l3 y3 z3
  obtain ⟨rfl, Lq3, eq3⟩ := hQ3
  have c4 : SS p e below S0 (T3.setTop (mkF m 4 #[vr u, vr sx, .unset] [(.int (Int32.ofNat cs.length))])) := c1.trans (st3)
  have N3 := Fr.app N0 (Lq3 ▸ Fr.nil n0)
  rw [(show Int32.ofNat cs.length = (64 : Int32) by rw [hl]; rfl)] at c4
  have c5 : SS p e below S0 (T3.setTop (mkF m 9 #[vr u, vr sx, .unset] [(.ref sx)])) := c4.trans (by
    show SS p e below (T3.setTop (mkF m 4 #[vr u, vr sx, .unset] [(.int 64)])) _
    refine XS.iconst X3.here hx rfl (hb hby D11_4) ?_
    refine XS.icmpNo X3.here hx rfl (hb hby D11_5) rfl (flt (by decide : ¬ ((64 : Int32) < (1 : Int32)))).1 ?_
    refine XS.aloadN X3.here hx rfl (hb hby D11_8) rfl rfl ?_
    exact Steps.refl _)
  have hln6 : ∀ d ∈ StrChars.Road.wordsLen, d.before a0 Z = true := fun d hd => hw d (own_in_wordsLen d hd)
  obtain ⟨cq7, kq7, q7a, q7b, q7c⟩ := isOf hZ eq3 Sx.1
  obtain ⟨_, _, ⟨T7, L7, kk7, nn7⟩, -, X7, ⟨Lc7, hQ7, l7, y7, z7⟩, st7⟩ := X3.virtualBack hx (y := (⟨"java/lang/String", "length", "()I"⟩ : MethodName)) (z := (⟨"java/lang/String", "length", "()I"⟩ : MethodName)) hown (mvT hZ (ww hw 75 rfl)) (mvT hZ (ww hw 61 rfl)) (notFace_of_selects (args := #[]) (mvT hZ (ww hw 63 rfl))) (mvT hZ (ww hw 63 rfl)) (mvT hZ (ww hw 62 rfl)) (by decide) (StrChars.Road.lenW (W := 0) hZ hln6 (kI := 4) (ww hw 6 rfl) Sx.1 Sx.2.1 Sx.2.2.1 Sx.2.2.2.1 Sx.cod (own_up _ Sx.2.2.2.2.1) (O2.ext X00.2) P5 Sx.2.2.2.2.2 (by decide) (by decide)) q7a q7c (g := (mkF m 9 #[vr u, vr sx, .unset] [(.ref sx)])) rfl (by rw [hml]; rfl) (Steps.refl _) (argsL := []) (rest := []) (lenOf pd_ocI rfl) rfl (by show 2 * 0 + _ ≤ _; exact Nat.le_of_eq rfl) (hb hby D11_9) (fun _ _ => ⟨rfl, eq3, (by decide : 0 + 0 ≤ _), (by decide : 0 + 0 ≤ _)⟩)
  dsimp only [Pt.U, Pt.locs, Pt.cells, Pt.slots] at X7 l7 y7 z7 st7 hQ7
  subst l7 y7 z7
  obtain ⟨rfl, Lq7, eq7⟩ := hQ7
  have c8 : SS p e below S0 (T7.setTop (mkF m 12 #[vr u, vr sx, .unset] [(.int (Int32.ofNat cs.length))])) := c5.trans (st7)
  have N7 := Fr.app N3 (Lq7 ▸ Fr.nil n0)
  rw [(show Int32.ofNat cs.length = (64 : Int32) by rw [hl]; rfl)] at c8
  have c9 : SS p e below S0 (T7.setTop (mkF m 13 #[vr u, vr sx, .unset] [(.ref u), (.int 64)])) := c8.trans (by
    show SS p e below (T7.setTop (mkF m 12 #[vr u, vr sx, .unset] [(.int 64)])) _
    refine XS.aloadN X7.here hx rfl (hb hby D11_12) rfl rfl ?_
    exact Steps.refl _)
  obtain ⟨T10, X10, e10, st10⟩ := getF X7 hx hZ hown (host := "") (Or.inl (ww hw 54 rfl)) Via.refl eq7 Fm (g := (mkF m 13 #[vr u, vr sx, .unset] [(.ref u), (.int 64)])) rfl rfl (hb hby D11_13)
  have c11 : SS p e below S0 (T10.setTop (mkF m 16 #[vr u, vr sx, .unset] [(.int 64), (.int 64)])) := c9.trans (st10 _ (Steps.refl _))
  have c12 : SS p e below S0 (T10.setTop (mkF m 23 #[vr u, vr sx, vi 0] [])) := c11.trans (by
    show SS p e below (T10.setTop (mkF m 16 #[vr u, vr sx, .unset] [(.int 64), (.int 64)])) _
    refine XS.icmpYes X10.here hx rfl (pc0 := 16) (pc' := 21) rfl (hb hby D11_16) rfl (flt (by decide : ¬ ((64 : Int32) < (64 : Int32)))).2.2.2 (by decide) (by decide) ?_
    refine XS.iconst X10.here hx rfl (hb hby D11_21) ?_
    refine XS.istoreN X10.here hx rfl (hb hby D11_22) rfl (l' := #[vr u, vr sx, vi 0]) rfl ?_
    exact Steps.refl _)
  have lp : ∀ (n k : Nat) (T : State) (locs : List Loc), n = 64 - k → k ≤ 64 → Fr n0 locs → Stand p l e ({ frames := 4, cells := 64, slots := 256, locals := 53 } : Room) s m #[(.ref u), (.ref sx)] below meth c T locs k (4 * k) → Keep h0 T.heap [] → n0 ≤ T.heap.size → SS p e below S0 (T.setTop (mkF m 23 #[vr u, vr sx, vi (Int32.ofNat k)] [])) →
      ∃ (T : State) (locs : List Loc), Fr n0 locs ∧ Stand p l e ({ frames := 4, cells := 64, slots := 256, locals := 53 } : Room) s m #[(.ref u), (.ref sx)] below meth c T locs 64 (4 * 64) ∧ Keep h0 T.heap [] ∧ SS p e below S0 (T.setTop (mkF m 50 #[vr u, vr sx, vi (Int32.ofNat 64)] [])) := by
    intro n
    induction n with
    | zero =>
      intro k T locs hn hkl NN X KK zz cc
      have c13 : SS p e below S0 (T.setTop (mkF m 25 #[vr u, vr sx, vi (Int32.ofNat k)] [(.ref sx), (.int (Int32.ofNat k))])) := cc.trans (by
        show SS p e below (T.setTop (mkF m 23 #[vr u, vr sx, vi (Int32.ofNat k)] [])) _
        refine XS.iloadN X.here hx rfl (hb hby D11_23) rfl ?_
        refine XS.aloadN X.here hx rfl (hb hby D11_24) rfl rfl ?_
        exact Steps.refl _)
      have hln14 : ∀ d ∈ StrChars.Road.wordsLen, d.before a0 Z = true := fun d hd => hw d (own_in_wordsLen d hd)
      obtain ⟨cq15, kq15, q15a, q15b, q15c⟩ := isOf hZ rfl (Sx.1.keep KK)
      obtain ⟨_, _, ⟨T15, L15, kk15, nn15⟩, -, X15, ⟨Lc15, hQ15, l15, y15, z15⟩, st15⟩ := X.virtualBack hx (y := (⟨"java/lang/String", "length", "()I"⟩ : MethodName)) (z := (⟨"java/lang/String", "length", "()I"⟩ : MethodName)) hown (mvT hZ (ww hw 75 rfl)) (mvT hZ (ww hw 61 rfl)) (notFace_of_selects (args := #[]) (mvT hZ (ww hw 63 rfl))) (mvT hZ (ww hw 63 rfl)) (mvT hZ (ww hw 62 rfl)) (by decide) (StrChars.Road.lenW (W := 1) hZ hln14 (kI := 4) (ww hw 6 rfl) (Sx.1.keep KK) (Sx.2.1.keep KK nin0) (Sx.2.2.1.keep KK nin0) (Sx.2.2.2.1.keep KK nin0) Sx.cod (own_up _ Sx.2.2.2.2.1) (O2.ext (X00.keep KK all0).2) P5 Sx.2.2.2.2.2 (by decide) (by decide)) q15a q15c (g := (mkF m 25 #[vr u, vr sx, vi (Int32.ofNat k)] [(.ref sx), (.int (Int32.ofNat k))])) rfl (by rw [hml]; rfl) (Steps.refl _) (argsL := []) (rest := [(.int (Int32.ofNat k))]) (lenOf pd_ocI rfl) rfl (by show 2 * 0 + _ ≤ _; exact Nat.le_of_eq rfl) (hb hby D11_25) (fun _ _ => ⟨rfl, rfl, (Nat.le_trans (by omega : k + 0 + 0 ≤ 64) (by decide)), (Nat.le_trans (by omega : 4 * k + 0 + 0 ≤ 256) (by decide))⟩)
      dsimp only [Pt.U, Pt.locs, Pt.cells, Pt.slots] at X15 l15 y15 z15 st15 hQ15
      subst l15
      rw [y15, z15] at X15
      obtain ⟨rfl, Lq15, eq15⟩ := hQ15
      have c16 : SS p e below S0 (T15.setTop (mkF m 28 #[vr u, vr sx, vi (Int32.ofNat k)] [(.int (Int32.ofNat cs.length)), (.int (Int32.ofNat k))])) := c13.trans (st15)
      have N15 := Fr.app NN (Lq15 ▸ Fr.nil n0)
      rw [(show Int32.ofNat cs.length = (64 : Int32) by rw [hl]; rfl)] at c16
      have c17 : SS p e below S0 (T15.setTop (mkF m 50 #[vr u, vr sx, vi (Int32.ofNat k)] [])) := c16.trans (by
        show SS p e below (T15.setTop (mkF m 28 #[vr u, vr sx, vi (Int32.ofNat k)] [(.int 64), (.int (Int32.ofNat k))])) _
        refine XS.icmpYes X15.here hx rfl (pc0 := 28) (pc' := 50) rfl (hb hby D11_28) rfl (flt (fun z => absurd ((own_ofN_lt (a := k) (b := 64) (by omega) (by omega)).mp z) (by omega) : ¬ (Int32.ofNat k) < (64 : Int32))).2.1 (by decide) (by decide) ?_
        exact Steps.refl _)
      have ek : k = 64 := by omega
      subst ek
      exact ⟨T15, _, N15, X15, (by rw [eq15]; exact KK), c17⟩
    | succ n ih =>
      intro k T locs hn hkl NN X KK zz cc
      have hk : k < cs.length := by omega
      have c18 : SS p e below S0 (T.setTop (mkF m 25 #[vr u, vr sx, vi (Int32.ofNat k)] [(.ref sx), (.int (Int32.ofNat k))])) := cc.trans (by
        show SS p e below (T.setTop (mkF m 23 #[vr u, vr sx, vi (Int32.ofNat k)] [])) _
        refine XS.iloadN X.here hx rfl (hb hby D11_23) rfl ?_
        refine XS.aloadN X.here hx rfl (hb hby D11_24) rfl rfl ?_
        exact Steps.refl _)
      have hln19 : ∀ d ∈ StrChars.Road.wordsLen, d.before a0 Z = true := fun d hd => hw d (own_in_wordsLen d hd)
      obtain ⟨cq20, kq20, q20a, q20b, q20c⟩ := isOf hZ rfl (Sx.1.keep KK)
      obtain ⟨_, _, ⟨T20, L20, kk20, nn20⟩, -, X20, ⟨Lc20, hQ20, l20, y20, z20⟩, st20⟩ := X.virtualBack hx (y := (⟨"java/lang/String", "length", "()I"⟩ : MethodName)) (z := (⟨"java/lang/String", "length", "()I"⟩ : MethodName)) hown (mvT hZ (ww hw 75 rfl)) (mvT hZ (ww hw 61 rfl)) (notFace_of_selects (args := #[]) (mvT hZ (ww hw 63 rfl))) (mvT hZ (ww hw 63 rfl)) (mvT hZ (ww hw 62 rfl)) (by decide) (StrChars.Road.lenW (W := 1) hZ hln19 (kI := 4) (ww hw 6 rfl) (Sx.1.keep KK) (Sx.2.1.keep KK nin0) (Sx.2.2.1.keep KK nin0) (Sx.2.2.2.1.keep KK nin0) Sx.cod (own_up _ Sx.2.2.2.2.1) (O2.ext (X00.keep KK all0).2) P5 Sx.2.2.2.2.2 (by decide) (by decide)) q20a q20c (g := (mkF m 25 #[vr u, vr sx, vi (Int32.ofNat k)] [(.ref sx), (.int (Int32.ofNat k))])) rfl (by rw [hml]; rfl) (Steps.refl _) (argsL := []) (rest := [(.int (Int32.ofNat k))]) (lenOf pd_ocI rfl) rfl (by show 2 * 0 + _ ≤ _; exact Nat.le_of_eq rfl) (hb hby D11_25) (fun _ _ => ⟨rfl, rfl, (Nat.le_trans (by omega : k + 0 + 0 ≤ 64) (by decide)), (Nat.le_trans (by omega : 4 * k + 0 + 0 ≤ 256) (by decide))⟩)
      dsimp only [Pt.U, Pt.locs, Pt.cells, Pt.slots] at X20 l20 y20 z20 st20 hQ20
      subst l20
      rw [y20, z20] at X20
      obtain ⟨rfl, Lq20, eq20⟩ := hQ20
      have c21 : SS p e below S0 (T20.setTop (mkF m 28 #[vr u, vr sx, vi (Int32.ofNat k)] [(.int (Int32.ofNat cs.length)), (.int (Int32.ofNat k))])) := c18.trans (st20)
      have N20 := Fr.app NN (Lq20 ▸ Fr.nil n0)
      rw [(show Int32.ofNat cs.length = (64 : Int32) by rw [hl]; rfl)] at c21
      have c22 : SS p e below S0 (T20.setTop (mkF m 33 #[vr u, vr sx, vi (Int32.ofNat k)] [(.int (Int32.ofNat k)), (.ref sx)])) := c21.trans (by
        show SS p e below (T20.setTop (mkF m 28 #[vr u, vr sx, vi (Int32.ofNat k)] [(.int 64), (.int (Int32.ofNat k))])) _
        refine XS.icmpNo X20.here hx rfl (hb hby D11_28) rfl (tlt ((own_ofN_lt (a := k) (b := 64) (by omega) (by omega)).mpr (by omega) : (Int32.ofNat k) < (64 : Int32))).2.1 ?_
        refine XS.aloadN X20.here hx rfl (hb hby D11_31) rfl rfl ?_
        refine XS.iloadN X20.here hx rfl (hb hby D11_32) rfl ?_
        exact Steps.refl _)
      have hch23 : ∀ d ∈ StrChars.Road.wordsChN, d.before a0 Z = true := fun d hd => hw d (own_in_wordsChN d hd)
      obtain ⟨cq24, kq24, q24a, q24b, q24c⟩ := isOf hZ eq20 (Sx.1.keep KK)
      obtain ⟨_, _, ⟨T24, L24, kk24, nn24⟩, -, X24, ⟨Lc24, hQ24, l24, y24, z24⟩, st24⟩ := X20.virtualBack hx (y := (⟨"java/lang/String", "charAt", "(I)C"⟩ : MethodName)) (z := (⟨"java/lang/String", "charAt", "(I)C"⟩ : MethodName)) hown (mvT hZ (ww hw 76 rfl)) (mvT hZ (ww hw 77 rfl)) (notFace_of_selects (args := #[]) (mvT hZ (ww hw 79 rfl))) (mvT hZ (ww hw 79 rfl)) (mvT hZ (ww hw 78 rfl)) (by decide) (StrChars.Road.chN (W := 0) hZ hch23 (kI := 4) (ww hw 6 rfl) (Sx.1.keep KK) (Sx.2.1.keep KK nin0) (Sx.2.2.1.keep KK nin0) (Sx.2.2.2.1.keep KK nin0) Sx.cod (own_up _ Sx.2.2.2.2.1) (O2.ext (X00.keep KK all0).2) P5 (O4.ext (X00.keep KK all0).2) rG3 Sx.2.2.2.2.2 (i := k) hk (j := (Int32.ofNat k)) rfl (by decide) (by decide)) q24a q24c (g := (mkF m 33 #[vr u, vr sx, vi (Int32.ofNat k)] [(.int (Int32.ofNat k)), (.ref sx)])) rfl (by rw [hml]; rfl) (Steps.refl _) (argsL := [(.int (Int32.ofNat k))]) (rest := []) (lenOf pd_oIcC rfl) rfl (by show 2 * 0 + _ ≤ _; exact Nat.le_of_eq rfl) (hb hby D11_33) (fun _ _ => ⟨rfl, eq20, (Nat.le_trans (by omega : k + 0 + 0 ≤ 64) (by decide)), (Nat.le_trans (by omega : 4 * k + 0 + 0 ≤ 256) (by decide))⟩)
      dsimp only [Pt.U, Pt.locs, Pt.cells, Pt.slots] at X24 l24 y24 z24 st24 hQ24
      subst l24
      rw [y24, z24] at X24
      obtain ⟨rfl, Lq24, eq24⟩ := hQ24
      have c25 : SS p e below S0 (T24.setTop (mkF m 36 #[vr u, vr sx, vi (Int32.ofNat k)] [(.int (cs.getD k 0))])) := c22.trans (st24)
      have N24 := Fr.app N20 (Lq24 ▸ Fr.nil n0)
      obtain ⟨_, _, ⟨T26, L26, kk26, nn26⟩, -, X26, ⟨Lc26, hQ26, l26, y26, z26⟩, st26⟩ := Jvm.LawKit.callS X24 hx (y := (⟨"com/example/pricefold/pricefold/model/Identifier", "isAmongCharacters", "(C)Z"⟩ : MethodName)) hown (mvT hZ (ww hw 98 rfl)) (mvT hZ (ww hw 99 rfl)) (mvT hZ (ww hw 2 rfl)) (mvT hZ (ww hw 100 rfl)) (by decide) (backOf (W := 0) (rmAm l Z a0 hw [] (cs.getD k 0) ls ea q0 q1 q2 q3 q4 ke T.heap n0 zz sC xls fls Vea xq0 xq1 xq2 xq3 xq4 fq0_0 fq0_1 fq1_0 fq1_1 fq2_0 fq2_1 fq3_0 fq3_1 fq4_0 fq4_1 (X00.keep KK all0)) hZ (ww hw 100 rfl) (ww hw 2 rfl) (by decide) (by decide)) (g := (mkF m 36 #[vr u, vr sx, vi (Int32.ofNat k)] [(.int (cs.getD k 0))])) rfl (by rw [hml]; rfl) (argsL := [(.int (cs.getD k 0))]) (rest := []) (lenOf pd_oCcZ rfl) rfl (by show 2 * 0 + _ ≤ _; exact Nat.le_of_eq rfl) (hb hby D11_36) (fun _ _ => ⟨rfl, eq24, (Nat.le_trans (by omega : k + 0 + 1 ≤ 64) (by decide)), (Nat.le_trans (by omega : 4 * k + 0 + 4 ≤ 256) (by decide))⟩)
      dsimp only [Pt.U, Pt.locs, Pt.cells, Pt.slots] at X26 l26 y26 z26 st26 hQ26
      subst l26
      rw [y26, z26] at X26
      obtain ⟨r26, rfl, hr26, Nq26, Kq26⟩ := hQ26
      have e126 : r26 = 1 := own_is1 hr26 (ham _ (own_gmem hk))
      subst e126
      have c27 : SS p e below S0 (T26.setTop (mkF m 39 #[vr u, vr sx, vi (Int32.ofNat k)] [(.int 1)])) := c25.trans (st26 _ (Steps.refl _))
      have N26 := Fr.app N24 Nq26
      have z26 : n0 ≤ T26.heap.size := Nat.le_trans zz Kq26.1
      have K26 := KK.trans Kq26 all0
      have c28 : SS p e below S0 (T26.setTop (mkF m 23 #[vr u, vr sx, vi ((Int32.ofNat k) + (1 : Int32))] [])) := c27.trans (by
        show SS p e below (T26.setTop (mkF m 39 #[vr u, vr sx, vi (Int32.ofNat k)] [(.int 1)])) _
        refine XS.ifYes X26.here hx rfl (pc0 := 39) (pc' := 44) rfl (hb hby D11_39) rfl ((if0 _ _).trans (feq (by decide : ¬ ((1 : Int32) = (0 : Int32)))).2) (by decide) (by decide) ?_
        refine XS.iinc X26.here hx rfl (hb hby D11_44) rfl (l' := #[vr u, vr sx, vi ((Int32.ofNat k) + (1 : Int32))]) rfl ?_
        refine XS.goto X26.here hx rfl (pc0 := 47) (pc' := 23) rfl (hb hby D11_47) (by decide) (by decide) ?_
        exact Steps.refl _)
      have e1 : Int32.ofNat k + (1 : Int32) = Int32.ofNat (k + 1) := (inc_ofNat k).symm
      rw [e1] at c28
      exact ih (k + 1) _ _ (by omega) (by omega) N26 (X26.more (Nat.le_refl _) (by omega)) K26 z26 c28
  obtain ⟨T9, l9, N9, X9, K9, c9⟩ := lp _ 0 _ _ rfl (Nat.zero_le _) N7 X10 (e10.symm ▸ Keep.refl h0 []) (e10.symm ▸ Z0) c12
  have c29 : SS p e below S0 (T9.setTop (mkF m 51 #[vr u, vr sx, vi (Int32.ofNat 64)] [(.int 1)])) := c9.trans (by
    show SS p e below (T9.setTop (mkF m 50 #[vr u, vr sx, vi (Int32.ofNat 64)] [])) _
    refine XS.iconst X9.here hx rfl (hb hby D11_50) ?_
    exact Steps.refl _)
  obtain ⟨fs, hr, hrun, hended, hW, hsame⟩ := X9.leave (v := some (.int 1)) (fun h => by rw [Bd.returns] at h; cases h)
  refine ⟨_, _, c29.trans (retOut X9 hx Bd.returns rfl (Or.inl ⟨rfl, by simp, _, rfl⟩) (hb hby D11_51) hr), hrun, hended, _, _, rfl, ?_, ⟨_, rfl⟩, hW, hsame.mono (by first | decide | exact Nat.le_of_ble_eq_true rfl) (by first | decide | exact Nat.le_of_ble_eq_true rfl)⟩
  show QKI Z 1 h0 n0 _ T9.heap _
  exact ⟨rfl, N9, K9⟩

def Q0 (Z : State) (h0 : Heap) (n0 : Nat) (v : Option Value) (h : Heap) (L : List Loc) : Prop := v = some (.int 1) ∧ Fr n0 L

theorem pd_oaCcV : parseMethodDescriptor "([C)V" = some ⟨[(.array .char)], none⟩ := by decide +kernel
theorem pd_oLjavaslangsStringecZ : parseMethodDescriptor "(Ljava/lang/String;)Z" = some ⟨[(.object "java/lang/String")], some .boolean⟩ := by decide +kernel
theorem pn_com_example_pricefold_pricefold_model_IdentifierLongestPinLaw : plainName "com/example/pricefold/pricefold/model/IdentifierLongestPinLaw" = true := by first | (simp [plainName, overriddenIn]; done) | decide +kernel
theorem ef_rm0 (m : MethodId) (x0 : Int32) : entryFrame m #[(.int x0)] maxLocals = mkF m 0 #[.val (.int x0), .unset, .unset, .unset, .unset, .unset, .unset, .unset] [] := by first | (simp [entryFrame, mkF, argsToLocals, Value.category, maxLocals]; done) | rfl
set_option maxRecDepth 65536 in
set_option maxHeartbeats 40000000 in
theorem rm0 (l : Launch) (Z : State) (a0 : Array Value) (hw : ∀ d ∈ tables_1, d.before a0 Z = true) (ws : List Jvm.Cond) (p0 : Int32) (u0 u1 u2 aV : Addr) (kV : ClassId) (ls ea q0 q1 q2 q3 q4 : Addr) (ke : ClassId) (G1 : Int32) (G3 : Value) (h0 : Heap) (n0 : Nat) (Z0 : n0 ≤ h0.size) (su0 : Sta Z Z.heap "com/example/pricefold/pricefold/model/Identifier" "VOUCHER_CODE" "Lcom/example/pricefold/pricefold/model/Identifier;" (.ref u0)) (su1 : Sta Z Z.heap "com/example/pricefold/pricefold/model/Identifier" "ORDER_ID" "Lcom/example/pricefold/pricefold/model/Identifier;" (.ref u1)) (su2 : Sta Z Z.heap "com/example/pricefold/pricefold/model/Identifier" "CHANNEL" "Lcom/example/pricefold/pricefold/model/Identifier;" (.ref u2)) (xu0 : Exa Z Z.heap u0 "com/example/pricefold/pricefold/model/Identifier") (xu1 : Exa Z Z.heap u1 "com/example/pricefold/pricefold/model/Identifier") (xu2 : Exa Z Z.heap u2 "com/example/pricefold/pricefold/model/Identifier") (ou0 : Fld Z Z.heap u0 "com/example/pricefold/pricefold/model/Identifier" "mostCharacters" "I" (.int 64)) (ou1 : Fld Z Z.heap u1 "com/example/pricefold/pricefold/model/Identifier" "mostCharacters" "I" (.int 64)) (ou2 : Fld Z Z.heap u2 "com/example/pricefold/pricefold/model/Identifier" "mostCharacters" "I" (.int 64)) (sV : Sta Z Z.heap "com/example/pricefold/pricefold/model/Identifier" "$VALUES" "[Lcom/example/pricefold/pricefold/model/Identifier;" (.ref aV)) (VV : Arv Z Z.heap aV kV (.object "com/example/pricefold/pricefold/model/Identifier") (3 : Int32) [.ref u0, .ref u1, .ref u2] .null) (EV : Exa Z Z.heap aV "[Lcom/example/pricefold/pricefold/model/Identifier;") (hF : Fit Z) (sC : Sta Z Z.heap "com/example/pricefold/pricefold/model/Identifier" "CHARACTERS" "Ljava/util/List;" (.ref ls)) (xls : Exa Z Z.heap ls "java/util/ImmutableCollections$ListN") (fls : Fld Z Z.heap ls "java/util/ImmutableCollections$ListN" "elements" "[Ljava/lang/Object;" (.ref ea)) (Vea : Arv Z Z.heap ea ke (.object "java/lang/Object") (5 : Int32) [.ref q0, .ref q1, .ref q2, .ref q3, .ref q4] .null) (xq0 : Exa Z Z.heap q0 "com/example/pricefold/pricefold/model/Identifier$Span") (xq1 : Exa Z Z.heap q1 "com/example/pricefold/pricefold/model/Identifier$Span") (xq2 : Exa Z Z.heap q2 "com/example/pricefold/pricefold/model/Identifier$Span") (xq3 : Exa Z Z.heap q3 "com/example/pricefold/pricefold/model/Identifier$Span") (xq4 : Exa Z Z.heap q4 "com/example/pricefold/pricefold/model/Identifier$Span") (fq0_0 : Fld Z Z.heap q0 "com/example/pricefold/pricefold/model/Identifier$Span" "first" "C" (.int 65)) (fq0_1 : Fld Z Z.heap q0 "com/example/pricefold/pricefold/model/Identifier$Span" "last" "C" (.int 90)) (fq1_0 : Fld Z Z.heap q1 "com/example/pricefold/pricefold/model/Identifier$Span" "first" "C" (.int 97)) (fq1_1 : Fld Z Z.heap q1 "com/example/pricefold/pricefold/model/Identifier$Span" "last" "C" (.int 122)) (fq2_0 : Fld Z Z.heap q2 "com/example/pricefold/pricefold/model/Identifier$Span" "first" "C" (.int 48)) (fq2_1 : Fld Z Z.heap q2 "com/example/pricefold/pricefold/model/Identifier$Span" "last" "C" (.int 57)) (fq3_0 : Fld Z Z.heap q3 "com/example/pricefold/pricefold/model/Identifier$Span" "first" "C" (.int 45)) (fq3_1 : Fld Z Z.heap q3 "com/example/pricefold/pricefold/model/Identifier$Span" "last" "C" (.int 45)) (fq4_0 : Fld Z Z.heap q4 "com/example/pricefold/pricefold/model/Identifier$Span" "first" "C" (.int 95)) (fq4_1 : Fld Z Z.heap q4 "com/example/pricefold/pricefold/model/Identifier$Span" "last" "C" (.int 95)) (O2 : Sta Z Z.heap "java/lang/String" "COMPACT_STRINGS" "Z" (.int G1)) (P5 : ¬ G1 = 0) (X00 : Old Z n0 h0) (O4 : Sta Z Z.heap "jdk/internal/util/Preconditions" "SIOOBE_FORMATTER" "Ljava/util/function/BiFunction;" G3) (rG3 : G3.isRef = true) :
    MetFree l x (head1 (Jvm.Cond.code x code maxLocals ret :: ws) room_1) (fun aa U => aa = #[(.int p0)] ∧ Z.Warmed39 U.vm ∧ U.heap = h0) (fun _ _ _ _ _ => True) (fun _ U o U' => ∃ v L, o = .returned v ∧ Q0 Z  h0 n0 v U'.heap L ∧ FrameEnd U o U' L room_1.cells room_1.slots) := by
  refine MetFree.of_bodySF (plainFor_of_name pn_com_example_pricefold_pricefold_model_IdentifierLongestPinLaw) hisR ?_
  intro p e s m args below meth c s₁ Bd hml0 hP hK
  obtain ⟨rfl, hZ, hh⟩ := hP
  have hx := Bd.exec
  have hby := Bd.bytes
  have hml : c.maxLocals = 8 := hml0
  have hown : s.vm.findClass "com/example/pricefold/pricefold/model/IdentifierLongestPinLaw" = some m.cls := findClass_of_methodNamed Bd.named
  have hnm := (name_of_methodNamed Bd.named Bd.method).1
  have X0 : Stand p l e room_1 s m #[(.int p0)] below meth c s₁ [] 0 0 := Stand.of_body Bd
  have e0 : s₁.heap = h0 := by rw [← hh, Bd.state]; rfl
  have N0 := Fr.nil n0
  have K0 := Keep.refl h0 []
  obtain ⟨S0, hS0⟩ : ∃ z, z = s₁.setTop (entryFrame m #[(.int p0)] maxLocals) := ⟨_, rfl⟩
  rw [← hS0]
  have c0 : SS p e below S0 (s₁.setTop (mkF m 0 #[vi p0, .unset, .unset, .unset, .unset, .unset, .unset, .unset] [])) := by
    rw [hS0]; exact castTop (ef_rm0 m p0) (Steps.refl _)
  have c1 : SS p e below S0 (s₁.setTop (mkF m 7 #[vi p0, vi ((p0 &&& (2147483647 : Int32)) % (3 : Int32)), .unset, .unset, .unset, .unset, .unset, .unset] [])) := c0.trans (by
    show SS p e below (s₁.setTop (mkF m 0 #[vi p0, .unset, .unset, .unset, .unset, .unset, .unset, .unset] [])) _
    refine XS.iloadN X0.here hx rfl (hb hby at_0) rfl ?_
    show SS p e below (s₁.setTop (mkF m 1 #[vi p0, .unset, .unset, .unset, .unset, .unset, .unset, .unset] [(.int p0)])) _
    refine X0.ldcInt hx hown (mvT hZ (ww hw 0 rfl)) (g := (mkF m 1 #[vi p0, .unset, .unset, .unset, .unset, .unset, .unset, .unset] [(.int p0)])) rfl (hb hby at_1) _ ?_
    refine XS.iand X0.here hx rfl (hb hby at_3) rfl ?_
    refine XS.iconst X0.here hx rfl (hb hby at_4) ?_
    show SS p e below (s₁.setTop (mkF m 5 #[vi p0, .unset, .unset, .unset, .unset, .unset, .unset, .unset] [(.int 3), (.int (p0 &&& (2147483647 : Int32)))])) _
    refine iremM (g := (mkF m 5 #[vi p0, .unset, .unset, .unset, .unset, .unset, .unset, .unset] [(.int 3), (.int (p0 &&& (2147483647 : Int32)))])) X0 hx rfl (hb hby at_5) rfl (by decide) ?_
    refine XS.istoreN X0.here hx rfl (hb hby at_6) rfl (l' := #[vi p0, vi ((p0 &&& (2147483647 : Int32)) % (3 : Int32)), .unset, .unset, .unset, .unset, .unset, .unset]) rfl ?_
    exact Steps.refl _)
  obtain ⟨pk, hpk, c2⟩ : ∃ z : Int32, z = ((p0 &&& (2147483647 : Int32)) % (3 : Int32)) ∧ SS p e below S0 (s₁.setTop (mkF m 7 #[vi p0, vi z, .unset, .unset, .unset, .unset, .unset, .unset] [])) := ⟨_, rfl, c1⟩
  have c3 : SS p e below S0 (s₁.setTop (mkF m 8 #[vi p0, vi pk, .unset, .unset, .unset, .unset, .unset, .unset] [(.int pk)])) := c2.trans (by
    show SS p e below (s₁.setTop (mkF m 7 #[vi p0, vi pk, .unset, .unset, .unset, .unset, .unset, .unset] [])) _
    refine XS.iloadN X0.here hx rfl (hb hby at_7) rfl ?_
    exact Steps.refl _)
  obtain ⟨uk, T5, l5, huk, N5, X5, e5, c5⟩ : ∃ (uk : Addr) (T : State) (locs : List Loc), uk = (if pk = (0 : Int32) then u0 else (if pk = (1 : Int32) then u1 else u2)) ∧ Fr n0 locs ∧ Stand p l e room_1 s m #[(.int p0)] below meth c T locs 0 0 ∧ T.heap = h0 ∧ SS p e below S0 (T.setTop (mkF m 31 #[vi p0, vi pk, .unset, .unset, .unset, .unset, .unset, .unset] [(.ref uk)])) := by
    by_cases hq6 : pk = (0 : Int32)
    · have c7 : SS p e below S0 (s₁.setTop (mkF m 11 #[vi p0, vi pk, .unset, .unset, .unset, .unset, .unset, .unset] [])) := c3.trans (by
        show SS p e below (s₁.setTop (mkF m 8 #[vi p0, vi pk, .unset, .unset, .unset, .unset, .unset, .unset] [(.int pk)])) _
        refine XS.ifNo X0.here hx rfl (hb hby at_8) rfl ((if0 _ _).trans (teq hq6).2) ?_
        exact Steps.refl _)
      obtain ⟨T8, X8, e8, st8⟩ := getS2 X0 hx hZ hown (host := "") (Or.inl (ww hw 1 rfl)) Via.refl e0 (su0.ext X00.2) (g := (mkF m 11 #[vi p0, vi pk, .unset, .unset, .unset, .unset, .unset, .unset] [])) rfl (hb hby at_11)
      have c9 : SS p e below S0 (T8.setTop (mkF m 14 #[vi p0, vi pk, .unset, .unset, .unset, .unset, .unset, .unset] [(.ref u0)])) := c7.trans (st8 _ (Steps.refl _))
      have c10 : SS p e below S0 (T8.setTop (mkF m 31 #[vi p0, vi pk, .unset, .unset, .unset, .unset, .unset, .unset] [(.ref u0)])) := c9.trans (by
        show SS p e below (T8.setTop (mkF m 14 #[vi p0, vi pk, .unset, .unset, .unset, .unset, .unset, .unset] [(.ref u0)])) _
        refine XS.goto X8.here hx rfl (pc0 := 14) (pc' := 31) rfl (hb hby at_14) (by decide) (by decide) ?_
        exact Steps.refl _)
      exact ⟨_, T8, _, (by rw [if_pos hq6]), N0, X8, e8, c10⟩
    · have c11 : SS p e below S0 (s₁.setTop (mkF m 19 #[vi p0, vi pk, .unset, .unset, .unset, .unset, .unset, .unset] [(.int 1), (.int pk)])) := c3.trans (by
        show SS p e below (s₁.setTop (mkF m 8 #[vi p0, vi pk, .unset, .unset, .unset, .unset, .unset, .unset] [(.int pk)])) _
        refine XS.ifYes X0.here hx rfl (pc0 := 8) (pc' := 17) rfl (hb hby at_8) rfl ((if0 _ _).trans (feq hq6).2) (by decide) (by decide) ?_
        refine XS.iloadN X0.here hx rfl (hb hby at_17) rfl ?_
        refine XS.iconst X0.here hx rfl (hb hby at_18) ?_
        exact Steps.refl _)
      by_cases hq12 : pk = (1 : Int32)
      · have c13 : SS p e below S0 (s₁.setTop (mkF m 22 #[vi p0, vi pk, .unset, .unset, .unset, .unset, .unset, .unset] [])) := c11.trans (by
          show SS p e below (s₁.setTop (mkF m 19 #[vi p0, vi pk, .unset, .unset, .unset, .unset, .unset, .unset] [(.int 1), (.int pk)])) _
          refine XS.icmpNo X0.here hx rfl (hb hby at_19) rfl (teq hq12).2 ?_
          exact Steps.refl _)
        obtain ⟨T14, X14, e14, st14⟩ := getS2 X0 hx hZ hown (host := "") (Or.inl (ww hw 176 rfl)) Via.refl e0 (su1.ext X00.2) (g := (mkF m 22 #[vi p0, vi pk, .unset, .unset, .unset, .unset, .unset, .unset] [])) rfl (hb hby at_22)
        have c15 : SS p e below S0 (T14.setTop (mkF m 25 #[vi p0, vi pk, .unset, .unset, .unset, .unset, .unset, .unset] [(.ref u1)])) := c13.trans (st14 _ (Steps.refl _))
        have c16 : SS p e below S0 (T14.setTop (mkF m 31 #[vi p0, vi pk, .unset, .unset, .unset, .unset, .unset, .unset] [(.ref u1)])) := c15.trans (by
          show SS p e below (T14.setTop (mkF m 25 #[vi p0, vi pk, .unset, .unset, .unset, .unset, .unset, .unset] [(.ref u1)])) _
          refine XS.goto X14.here hx rfl (pc0 := 25) (pc' := 31) rfl (hb hby at_25) (by decide) (by decide) ?_
          exact Steps.refl _)
        exact ⟨_, T14, _, (by rw [if_neg hq6, if_pos hq12]), N0, X14, e14, c16⟩
      · have c17 : SS p e below S0 (s₁.setTop (mkF m 28 #[vi p0, vi pk, .unset, .unset, .unset, .unset, .unset, .unset] [])) := c11.trans (by
          show SS p e below (s₁.setTop (mkF m 19 #[vi p0, vi pk, .unset, .unset, .unset, .unset, .unset, .unset] [(.int 1), (.int pk)])) _
          refine XS.icmpYes X0.here hx rfl (pc0 := 19) (pc' := 28) rfl (hb hby at_19) rfl (feq hq12).2 (by decide) (by decide) ?_
          exact Steps.refl _)
        obtain ⟨T18, X18, e18, st18⟩ := getS2 X0 hx hZ hown (host := "") (Or.inl (ww hw 175 rfl)) Via.refl e0 (su2.ext X00.2) (g := (mkF m 28 #[vi p0, vi pk, .unset, .unset, .unset, .unset, .unset, .unset] [])) rfl (hb hby at_28)
        have c19 : SS p e below S0 (T18.setTop (mkF m 31 #[vi p0, vi pk, .unset, .unset, .unset, .unset, .unset, .unset] [(.ref u2)])) := c17.trans (st18 _ (Steps.refl _))
        exact ⟨_, T18, _, (by rw [if_neg hq6, if_neg hq12]), N0, X18, e18, c19⟩
  have xuk : Exa Z Z.heap uk "com/example/pricefold/pricefold/model/Identifier" := by rw [huk]; (repeat' split) <;> assumption
  have ouk : Fld Z Z.heap uk "com/example/pricefold/pricefold/model/Identifier" "mostCharacters" "I" (.int 64) := by rw [huk]; (repeat' split) <;> assumption
  have c20 : SS p e below S0 (T5.setTop (mkF m 34 #[vi p0, vi pk, vr uk, .unset, .unset, .unset, .unset, .unset] [(.int 64)])) := c5.trans (by
    show SS p e below (T5.setTop (mkF m 31 #[vi p0, vi pk, .unset, .unset, .unset, .unset, .unset, .unset] [(.ref uk)])) _
    refine XS.astoreN X5.here hx rfl (hb hby at_31) rfl rfl (l' := #[vi p0, vi pk, vr uk, .unset, .unset, .unset, .unset, .unset]) rfl ?_
    refine XS.bipush X5.here hx rfl (hb hby at_32) ?_
    exact Steps.refl _)
  obtain ⟨T21, h21, k21, X21, e21, E21, A21, st21⟩ := newP X5 hx hZ (ww hw 4 rfl) e5 (g := (mkF m 34 #[vi p0, vi pk, vr uk, .unset, .unset, .unset, .unset, .unset] [(.int 64)])) rfl (hb hby at_34) rfl (by decide) (cap := 64) (by decide) (by decide) (by decide) (by decide)
  obtain ⟨b21, g21⟩ : ∃ z, z = h0.size := ⟨_, rfl⟩
  rw [← g21] at A21 st21
  have c22 : SS p e below S0 (T21.setTop (mkF m 36 #[vi p0, vi pk, vr uk, .unset, .unset, .unset, .unset, .unset] [(.ref b21)])) := c20.trans (st21 _ (Steps.refl _))
  have z21 : n0 ≤ h21.size := Nat.le_trans Z0 E21.1
  have K21 := K0.ext E21
  have V21 : Arv Z h21 b21 k21 .char (64 : Int32) [(.int 0), (.int 0), (.int 0), (.int 0), (.int 0), (.int 0), (.int 0), (.int 0), (.int 0), (.int 0), (.int 0), (.int 0), (.int 0), (.int 0), (.int 0), (.int 0), (.int 0), (.int 0), (.int 0), (.int 0), (.int 0), (.int 0), (.int 0), (.int 0), (.int 0), (.int 0), (.int 0), (.int 0), (.int 0), (.int 0), (.int 0), (.int 0), (.int 0), (.int 0), (.int 0), (.int 0), (.int 0), (.int 0), (.int 0), (.int 0), (.int 0), (.int 0), (.int 0), (.int 0), (.int 0), (.int 0), (.int 0), (.int 0), (.int 0), (.int 0), (.int 0), (.int 0), (.int 0), (.int 0), (.int 0), (.int 0), (.int 0), (.int 0), (.int 0), (.int 0), (.int 0), (.int 0), (.int 0), (.int 0)] (.int 0) := (Arv.new A21 (by decide)).pad (pad_rep [] (.int 0) 64)
  have lt_b21 : b21 < h21.size := V21.lt
  have ge23 : h0.size ≤ b21 := (Nat.le_trans K0.1 (Nat.le_of_eq g21.symm))
  obtain ⟨T24, h24, l24, N24, X24, e24, K24, z24, O24, V24_b21, c24⟩ : ∃ (T : State) (h : Heap) (locs : List Loc), Fr n0 locs ∧ Stand p l e room_1 s m #[(.int p0)] below meth c T locs 1 64 ∧ T.heap = h ∧ Keep h0 h [] ∧ n0 ≤ h.size ∧ Old Z n0 h ∧ Arv Z h b21 k21 .char (64 : Int32) [(.int (nar .char (65 : Int32))), (.int (nar .char (98 : Int32))), (.int (nar .char (90 : Int32))), (.int (nar .char (122 : Int32))), (.int (nar .char (48 : Int32))), (.int (nar .char (57 : Int32))), (.int (nar .char (45 : Int32))), (.int (nar .char (95 : Int32))), (.int 0), (.int 0), (.int 0), (.int 0), (.int 0), (.int 0), (.int 0), (.int 0), (.int 0), (.int 0), (.int 0), (.int 0), (.int 0), (.int 0), (.int 0), (.int 0), (.int 0), (.int 0), (.int 0), (.int 0), (.int 0), (.int 0), (.int 0), (.int 0), (.int 0), (.int 0), (.int 0), (.int 0), (.int 0), (.int 0), (.int 0), (.int 0), (.int 0), (.int 0), (.int 0), (.int 0), (.int 0), (.int 0), (.int 0), (.int 0), (.int 0), (.int 0), (.int 0), (.int 0), (.int 0), (.int 0), (.int 0), (.int 0), (.int 0), (.int 0), (.int 0), (.int 0), (.int 0), (.int 0), (.int 0), (.int 0)] (.int 0) ∧ SS p e below S0 (T.setTop (mkF m 78 #[vi p0, vi pk, vr uk, .unset, .unset, .unset, .unset, .unset] [(.ref b21)])) := by
    have c25 : SS p e below S0 (T21.setTop (mkF m 40 #[vi p0, vi pk, vr uk, .unset, .unset, .unset, .unset, .unset] [(.int 65), (.int 0), (.ref b21), (.ref b21)])) := c22.trans (by
      show SS p e below (T21.setTop (mkF m 36 #[vi p0, vi pk, vr uk, .unset, .unset, .unset, .unset, .unset] [(.ref b21)])) _
      refine XS.dup X21.here hx rfl (hb hby at_36) rfl rfl ?_
      refine XS.iconst X21.here hx rfl (hb hby at_37) ?_
      refine XS.bipush X21.here hx rfl (hb hby at_38) ?_
      exact Steps.refl _)
    obtain ⟨cl26, Ar26, q26, S26, Nn26, Ha26, G26⟩ := id V21
    obtain ⟨T26, h26, X26, e26, W26, st26⟩ := stC X21 hx hZ e21 Ar26 (j := (0 : Int32)) (inb_of S26 ⟨by decide, by decide⟩) (g := (mkF m 40 #[vi p0, vi pk, vr uk, .unset, .unset, .unset, .unset, .unset] [(.int 65), (.int 0), (.ref b21), (.ref b21)])) rfl rfl (hb hby at_40)
    have V26 : Arv Z h26 b21 k21 .char (64 : Int32) [(.int (nar .char (65 : Int32))), (.int 0), (.int 0), (.int 0), (.int 0), (.int 0), (.int 0), (.int 0), (.int 0), (.int 0), (.int 0), (.int 0), (.int 0), (.int 0), (.int 0), (.int 0), (.int 0), (.int 0), (.int 0), (.int 0), (.int 0), (.int 0), (.int 0), (.int 0), (.int 0), (.int 0), (.int 0), (.int 0), (.int 0), (.int 0), (.int 0), (.int 0), (.int 0), (.int 0), (.int 0), (.int 0), (.int 0), (.int 0), (.int 0), (.int 0), (.int 0), (.int 0), (.int 0), (.int 0), (.int 0), (.int 0), (.int 0), (.int 0), (.int 0), (.int 0), (.int 0), (.int 0), (.int 0), (.int 0), (.int 0), (.int 0), (.int 0), (.int 0), (.int 0), (.int 0), (.int 0), (.int 0), (.int 0), (.int 0)] (.int 0) := Arv.set Ar26 q26 S26 Nn26 Ha26 G26 (fits_nar_char _) W26 0 rfl (Nat.le_of_ble_eq_true rfl)
    have c27 : SS p e below S0 (T26.setTop (mkF m 41 #[vi p0, vi pk, vr uk, .unset, .unset, .unset, .unset, .unset] [(.ref b21)])) := c25.trans (st26 _ (Steps.refl _))
    have N26 := Fr.snoc X26 N5 (Nat.le_trans Z0 ge23)
    have z26 : n0 ≤ h26.size := Nat.le_trans z21 (Keep.of_wr W26).1
    have K26 := K21.wr W26 (Or.inr ge23)
    have c28 : SS p e below S0 (T26.setTop (mkF m 45 #[vi p0, vi pk, vr uk, .unset, .unset, .unset, .unset, .unset] [(.int 98), (.int 1), (.ref b21), (.ref b21)])) := c27.trans (by
      show SS p e below (T26.setTop (mkF m 41 #[vi p0, vi pk, vr uk, .unset, .unset, .unset, .unset, .unset] [(.ref b21)])) _
      refine XS.dup X26.here hx rfl (hb hby at_41) rfl rfl ?_
      refine XS.iconst X26.here hx rfl (hb hby at_42) ?_
      refine XS.bipush X26.here hx rfl (hb hby at_43) ?_
      exact Steps.refl _)
    obtain ⟨cl29, Ar29, q29, S29, Nn29, Ha29, G29⟩ := id V26
    obtain ⟨T29, h29, X29, e29, W29, st29⟩ := stC X26 hx hZ e26 Ar29 (j := (1 : Int32)) (inb_of S29 ⟨by decide, by decide⟩) (g := (mkF m 45 #[vi p0, vi pk, vr uk, .unset, .unset, .unset, .unset, .unset] [(.int 98), (.int 1), (.ref b21), (.ref b21)])) rfl rfl (hb hby at_45)
    have V29 : Arv Z h29 b21 k21 .char (64 : Int32) [(.int (nar .char (65 : Int32))), (.int (nar .char (98 : Int32))), (.int 0), (.int 0), (.int 0), (.int 0), (.int 0), (.int 0), (.int 0), (.int 0), (.int 0), (.int 0), (.int 0), (.int 0), (.int 0), (.int 0), (.int 0), (.int 0), (.int 0), (.int 0), (.int 0), (.int 0), (.int 0), (.int 0), (.int 0), (.int 0), (.int 0), (.int 0), (.int 0), (.int 0), (.int 0), (.int 0), (.int 0), (.int 0), (.int 0), (.int 0), (.int 0), (.int 0), (.int 0), (.int 0), (.int 0), (.int 0), (.int 0), (.int 0), (.int 0), (.int 0), (.int 0), (.int 0), (.int 0), (.int 0), (.int 0), (.int 0), (.int 0), (.int 0), (.int 0), (.int 0), (.int 0), (.int 0), (.int 0), (.int 0), (.int 0), (.int 0), (.int 0), (.int 0)] (.int 0) := Arv.set Ar29 q29 S29 Nn29 Ha29 G29 (fits_nar_char _) W29 1 rfl (Nat.le_of_ble_eq_true rfl)
    have c30 : SS p e below S0 (T29.setTop (mkF m 46 #[vi p0, vi pk, vr uk, .unset, .unset, .unset, .unset, .unset] [(.ref b21)])) := c28.trans (st29 _ (Steps.refl _))
    have N29 := Fr.snoc X29 N26 (Nat.le_trans Z0 ge23)
    have z29 : n0 ≤ h29.size := Nat.le_trans z26 (Keep.of_wr W29).1
    have K29 := K26.wr W29 (Or.inr ge23)
    have c31 : SS p e below S0 (T29.setTop (mkF m 50 #[vi p0, vi pk, vr uk, .unset, .unset, .unset, .unset, .unset] [(.int 90), (.int 2), (.ref b21), (.ref b21)])) := c30.trans (by
      show SS p e below (T29.setTop (mkF m 46 #[vi p0, vi pk, vr uk, .unset, .unset, .unset, .unset, .unset] [(.ref b21)])) _
      refine XS.dup X29.here hx rfl (hb hby at_46) rfl rfl ?_
      refine XS.iconst X29.here hx rfl (hb hby at_47) ?_
      refine XS.bipush X29.here hx rfl (hb hby at_48) ?_
      exact Steps.refl _)
    obtain ⟨cl32, Ar32, q32, S32, Nn32, Ha32, G32⟩ := id V29
    obtain ⟨T32, h32, X32, e32, W32, st32⟩ := stC X29 hx hZ e29 Ar32 (j := (2 : Int32)) (inb_of S32 ⟨by decide, by decide⟩) (g := (mkF m 50 #[vi p0, vi pk, vr uk, .unset, .unset, .unset, .unset, .unset] [(.int 90), (.int 2), (.ref b21), (.ref b21)])) rfl rfl (hb hby at_50)
    have V32 : Arv Z h32 b21 k21 .char (64 : Int32) [(.int (nar .char (65 : Int32))), (.int (nar .char (98 : Int32))), (.int (nar .char (90 : Int32))), (.int 0), (.int 0), (.int 0), (.int 0), (.int 0), (.int 0), (.int 0), (.int 0), (.int 0), (.int 0), (.int 0), (.int 0), (.int 0), (.int 0), (.int 0), (.int 0), (.int 0), (.int 0), (.int 0), (.int 0), (.int 0), (.int 0), (.int 0), (.int 0), (.int 0), (.int 0), (.int 0), (.int 0), (.int 0), (.int 0), (.int 0), (.int 0), (.int 0), (.int 0), (.int 0), (.int 0), (.int 0), (.int 0), (.int 0), (.int 0), (.int 0), (.int 0), (.int 0), (.int 0), (.int 0), (.int 0), (.int 0), (.int 0), (.int 0), (.int 0), (.int 0), (.int 0), (.int 0), (.int 0), (.int 0), (.int 0), (.int 0), (.int 0), (.int 0), (.int 0), (.int 0)] (.int 0) := Arv.set Ar32 q32 S32 Nn32 Ha32 G32 (fits_nar_char _) W32 2 rfl (Nat.le_of_ble_eq_true rfl)
    have c33 : SS p e below S0 (T32.setTop (mkF m 51 #[vi p0, vi pk, vr uk, .unset, .unset, .unset, .unset, .unset] [(.ref b21)])) := c31.trans (st32 _ (Steps.refl _))
    have N32 := Fr.snoc X32 N29 (Nat.le_trans Z0 ge23)
    have z32 : n0 ≤ h32.size := Nat.le_trans z29 (Keep.of_wr W32).1
    have K32 := K29.wr W32 (Or.inr ge23)
    have c34 : SS p e below S0 (T32.setTop (mkF m 55 #[vi p0, vi pk, vr uk, .unset, .unset, .unset, .unset, .unset] [(.int 122), (.int 3), (.ref b21), (.ref b21)])) := c33.trans (by
      show SS p e below (T32.setTop (mkF m 51 #[vi p0, vi pk, vr uk, .unset, .unset, .unset, .unset, .unset] [(.ref b21)])) _
      refine XS.dup X32.here hx rfl (hb hby at_51) rfl rfl ?_
      refine XS.iconst X32.here hx rfl (hb hby at_52) ?_
      refine XS.bipush X32.here hx rfl (hb hby at_53) ?_
      exact Steps.refl _)
    obtain ⟨cl35, Ar35, q35, S35, Nn35, Ha35, G35⟩ := id V32
    obtain ⟨T35, h35, X35, e35, W35, st35⟩ := stC X32 hx hZ e32 Ar35 (j := (3 : Int32)) (inb_of S35 ⟨by decide, by decide⟩) (g := (mkF m 55 #[vi p0, vi pk, vr uk, .unset, .unset, .unset, .unset, .unset] [(.int 122), (.int 3), (.ref b21), (.ref b21)])) rfl rfl (hb hby at_55)
    have V35 : Arv Z h35 b21 k21 .char (64 : Int32) [(.int (nar .char (65 : Int32))), (.int (nar .char (98 : Int32))), (.int (nar .char (90 : Int32))), (.int (nar .char (122 : Int32))), (.int 0), (.int 0), (.int 0), (.int 0), (.int 0), (.int 0), (.int 0), (.int 0), (.int 0), (.int 0), (.int 0), (.int 0), (.int 0), (.int 0), (.int 0), (.int 0), (.int 0), (.int 0), (.int 0), (.int 0), (.int 0), (.int 0), (.int 0), (.int 0), (.int 0), (.int 0), (.int 0), (.int 0), (.int 0), (.int 0), (.int 0), (.int 0), (.int 0), (.int 0), (.int 0), (.int 0), (.int 0), (.int 0), (.int 0), (.int 0), (.int 0), (.int 0), (.int 0), (.int 0), (.int 0), (.int 0), (.int 0), (.int 0), (.int 0), (.int 0), (.int 0), (.int 0), (.int 0), (.int 0), (.int 0), (.int 0), (.int 0), (.int 0), (.int 0), (.int 0)] (.int 0) := Arv.set Ar35 q35 S35 Nn35 Ha35 G35 (fits_nar_char _) W35 3 rfl (Nat.le_of_ble_eq_true rfl)
    have c36 : SS p e below S0 (T35.setTop (mkF m 56 #[vi p0, vi pk, vr uk, .unset, .unset, .unset, .unset, .unset] [(.ref b21)])) := c34.trans (st35 _ (Steps.refl _))
    have N35 := Fr.snoc X35 N32 (Nat.le_trans Z0 ge23)
    have z35 : n0 ≤ h35.size := Nat.le_trans z32 (Keep.of_wr W35).1
    have K35 := K32.wr W35 (Or.inr ge23)
    have c37 : SS p e below S0 (T35.setTop (mkF m 60 #[vi p0, vi pk, vr uk, .unset, .unset, .unset, .unset, .unset] [(.int 48), (.int 4), (.ref b21), (.ref b21)])) := c36.trans (by
      show SS p e below (T35.setTop (mkF m 56 #[vi p0, vi pk, vr uk, .unset, .unset, .unset, .unset, .unset] [(.ref b21)])) _
      refine XS.dup X35.here hx rfl (hb hby at_56) rfl rfl ?_
      refine XS.iconst X35.here hx rfl (hb hby at_57) ?_
      refine XS.bipush X35.here hx rfl (hb hby at_58) ?_
      exact Steps.refl _)
    obtain ⟨cl38, Ar38, q38, S38, Nn38, Ha38, G38⟩ := id V35
    obtain ⟨T38, h38, X38, e38, W38, st38⟩ := stC X35 hx hZ e35 Ar38 (j := (4 : Int32)) (inb_of S38 ⟨by decide, by decide⟩) (g := (mkF m 60 #[vi p0, vi pk, vr uk, .unset, .unset, .unset, .unset, .unset] [(.int 48), (.int 4), (.ref b21), (.ref b21)])) rfl rfl (hb hby at_60)
    have V38 : Arv Z h38 b21 k21 .char (64 : Int32) [(.int (nar .char (65 : Int32))), (.int (nar .char (98 : Int32))), (.int (nar .char (90 : Int32))), (.int (nar .char (122 : Int32))), (.int (nar .char (48 : Int32))), (.int 0), (.int 0), (.int 0), (.int 0), (.int 0), (.int 0), (.int 0), (.int 0), (.int 0), (.int 0), (.int 0), (.int 0), (.int 0), (.int 0), (.int 0), (.int 0), (.int 0), (.int 0), (.int 0), (.int 0), (.int 0), (.int 0), (.int 0), (.int 0), (.int 0), (.int 0), (.int 0), (.int 0), (.int 0), (.int 0), (.int 0), (.int 0), (.int 0), (.int 0), (.int 0), (.int 0), (.int 0), (.int 0), (.int 0), (.int 0), (.int 0), (.int 0), (.int 0), (.int 0), (.int 0), (.int 0), (.int 0), (.int 0), (.int 0), (.int 0), (.int 0), (.int 0), (.int 0), (.int 0), (.int 0), (.int 0), (.int 0), (.int 0), (.int 0)] (.int 0) := Arv.set Ar38 q38 S38 Nn38 Ha38 G38 (fits_nar_char _) W38 4 rfl (Nat.le_of_ble_eq_true rfl)
    have c39 : SS p e below S0 (T38.setTop (mkF m 61 #[vi p0, vi pk, vr uk, .unset, .unset, .unset, .unset, .unset] [(.ref b21)])) := c37.trans (st38 _ (Steps.refl _))
    have N38 := Fr.snoc X38 N35 (Nat.le_trans Z0 ge23)
    have z38 : n0 ≤ h38.size := Nat.le_trans z35 (Keep.of_wr W38).1
    have K38 := K35.wr W38 (Or.inr ge23)
    have c40 : SS p e below S0 (T38.setTop (mkF m 65 #[vi p0, vi pk, vr uk, .unset, .unset, .unset, .unset, .unset] [(.int 57), (.int 5), (.ref b21), (.ref b21)])) := c39.trans (by
      show SS p e below (T38.setTop (mkF m 61 #[vi p0, vi pk, vr uk, .unset, .unset, .unset, .unset, .unset] [(.ref b21)])) _
      refine XS.dup X38.here hx rfl (hb hby at_61) rfl rfl ?_
      refine XS.iconst X38.here hx rfl (hb hby at_62) ?_
      refine XS.bipush X38.here hx rfl (hb hby at_63) ?_
      exact Steps.refl _)
    obtain ⟨cl41, Ar41, q41, S41, Nn41, Ha41, G41⟩ := id V38
    obtain ⟨T41, h41, X41, e41, W41, st41⟩ := stC X38 hx hZ e38 Ar41 (j := (5 : Int32)) (inb_of S41 ⟨by decide, by decide⟩) (g := (mkF m 65 #[vi p0, vi pk, vr uk, .unset, .unset, .unset, .unset, .unset] [(.int 57), (.int 5), (.ref b21), (.ref b21)])) rfl rfl (hb hby at_65)
    have V41 : Arv Z h41 b21 k21 .char (64 : Int32) [(.int (nar .char (65 : Int32))), (.int (nar .char (98 : Int32))), (.int (nar .char (90 : Int32))), (.int (nar .char (122 : Int32))), (.int (nar .char (48 : Int32))), (.int (nar .char (57 : Int32))), (.int 0), (.int 0), (.int 0), (.int 0), (.int 0), (.int 0), (.int 0), (.int 0), (.int 0), (.int 0), (.int 0), (.int 0), (.int 0), (.int 0), (.int 0), (.int 0), (.int 0), (.int 0), (.int 0), (.int 0), (.int 0), (.int 0), (.int 0), (.int 0), (.int 0), (.int 0), (.int 0), (.int 0), (.int 0), (.int 0), (.int 0), (.int 0), (.int 0), (.int 0), (.int 0), (.int 0), (.int 0), (.int 0), (.int 0), (.int 0), (.int 0), (.int 0), (.int 0), (.int 0), (.int 0), (.int 0), (.int 0), (.int 0), (.int 0), (.int 0), (.int 0), (.int 0), (.int 0), (.int 0), (.int 0), (.int 0), (.int 0), (.int 0)] (.int 0) := Arv.set Ar41 q41 S41 Nn41 Ha41 G41 (fits_nar_char _) W41 5 rfl (Nat.le_of_ble_eq_true rfl)
    have c42 : SS p e below S0 (T41.setTop (mkF m 66 #[vi p0, vi pk, vr uk, .unset, .unset, .unset, .unset, .unset] [(.ref b21)])) := c40.trans (st41 _ (Steps.refl _))
    have N41 := Fr.snoc X41 N38 (Nat.le_trans Z0 ge23)
    have z41 : n0 ≤ h41.size := Nat.le_trans z38 (Keep.of_wr W41).1
    have K41 := K38.wr W41 (Or.inr ge23)
    have c43 : SS p e below S0 (T41.setTop (mkF m 71 #[vi p0, vi pk, vr uk, .unset, .unset, .unset, .unset, .unset] [(.int 45), (.int 6), (.ref b21), (.ref b21)])) := c42.trans (by
      show SS p e below (T41.setTop (mkF m 66 #[vi p0, vi pk, vr uk, .unset, .unset, .unset, .unset, .unset] [(.ref b21)])) _
      refine XS.dup X41.here hx rfl (hb hby at_66) rfl rfl ?_
      refine XS.bipush X41.here hx rfl (hb hby at_67) ?_
      refine XS.bipush X41.here hx rfl (hb hby at_69) ?_
      exact Steps.refl _)
    obtain ⟨cl44, Ar44, q44, S44, Nn44, Ha44, G44⟩ := id V41
    obtain ⟨T44, h44, X44, e44, W44, st44⟩ := stC X41 hx hZ e41 Ar44 (j := (6 : Int32)) (inb_of S44 ⟨by decide, by decide⟩) (g := (mkF m 71 #[vi p0, vi pk, vr uk, .unset, .unset, .unset, .unset, .unset] [(.int 45), (.int 6), (.ref b21), (.ref b21)])) rfl rfl (hb hby at_71)
    have V44 : Arv Z h44 b21 k21 .char (64 : Int32) [(.int (nar .char (65 : Int32))), (.int (nar .char (98 : Int32))), (.int (nar .char (90 : Int32))), (.int (nar .char (122 : Int32))), (.int (nar .char (48 : Int32))), (.int (nar .char (57 : Int32))), (.int (nar .char (45 : Int32))), (.int 0), (.int 0), (.int 0), (.int 0), (.int 0), (.int 0), (.int 0), (.int 0), (.int 0), (.int 0), (.int 0), (.int 0), (.int 0), (.int 0), (.int 0), (.int 0), (.int 0), (.int 0), (.int 0), (.int 0), (.int 0), (.int 0), (.int 0), (.int 0), (.int 0), (.int 0), (.int 0), (.int 0), (.int 0), (.int 0), (.int 0), (.int 0), (.int 0), (.int 0), (.int 0), (.int 0), (.int 0), (.int 0), (.int 0), (.int 0), (.int 0), (.int 0), (.int 0), (.int 0), (.int 0), (.int 0), (.int 0), (.int 0), (.int 0), (.int 0), (.int 0), (.int 0), (.int 0), (.int 0), (.int 0), (.int 0), (.int 0)] (.int 0) := Arv.set Ar44 q44 S44 Nn44 Ha44 G44 (fits_nar_char _) W44 6 rfl (Nat.le_of_ble_eq_true rfl)
    have c45 : SS p e below S0 (T44.setTop (mkF m 72 #[vi p0, vi pk, vr uk, .unset, .unset, .unset, .unset, .unset] [(.ref b21)])) := c43.trans (st44 _ (Steps.refl _))
    have N44 := Fr.snoc X44 N41 (Nat.le_trans Z0 ge23)
    have z44 : n0 ≤ h44.size := Nat.le_trans z41 (Keep.of_wr W44).1
    have K44 := K41.wr W44 (Or.inr ge23)
    have c46 : SS p e below S0 (T44.setTop (mkF m 77 #[vi p0, vi pk, vr uk, .unset, .unset, .unset, .unset, .unset] [(.int 95), (.int 7), (.ref b21), (.ref b21)])) := c45.trans (by
      show SS p e below (T44.setTop (mkF m 72 #[vi p0, vi pk, vr uk, .unset, .unset, .unset, .unset, .unset] [(.ref b21)])) _
      refine XS.dup X44.here hx rfl (hb hby at_72) rfl rfl ?_
      refine XS.bipush X44.here hx rfl (hb hby at_73) ?_
      refine XS.bipush X44.here hx rfl (hb hby at_75) ?_
      exact Steps.refl _)
    obtain ⟨cl47, Ar47, q47, S47, Nn47, Ha47, G47⟩ := id V44
    obtain ⟨T47, h47, X47, e47, W47, st47⟩ := stC X44 hx hZ e44 Ar47 (j := (7 : Int32)) (inb_of S47 ⟨by decide, by decide⟩) (g := (mkF m 77 #[vi p0, vi pk, vr uk, .unset, .unset, .unset, .unset, .unset] [(.int 95), (.int 7), (.ref b21), (.ref b21)])) rfl rfl (hb hby at_77)
    have V47 : Arv Z h47 b21 k21 .char (64 : Int32) [(.int (nar .char (65 : Int32))), (.int (nar .char (98 : Int32))), (.int (nar .char (90 : Int32))), (.int (nar .char (122 : Int32))), (.int (nar .char (48 : Int32))), (.int (nar .char (57 : Int32))), (.int (nar .char (45 : Int32))), (.int (nar .char (95 : Int32))), (.int 0), (.int 0), (.int 0), (.int 0), (.int 0), (.int 0), (.int 0), (.int 0), (.int 0), (.int 0), (.int 0), (.int 0), (.int 0), (.int 0), (.int 0), (.int 0), (.int 0), (.int 0), (.int 0), (.int 0), (.int 0), (.int 0), (.int 0), (.int 0), (.int 0), (.int 0), (.int 0), (.int 0), (.int 0), (.int 0), (.int 0), (.int 0), (.int 0), (.int 0), (.int 0), (.int 0), (.int 0), (.int 0), (.int 0), (.int 0), (.int 0), (.int 0), (.int 0), (.int 0), (.int 0), (.int 0), (.int 0), (.int 0), (.int 0), (.int 0), (.int 0), (.int 0), (.int 0), (.int 0), (.int 0), (.int 0)] (.int 0) := Arv.set Ar47 q47 S47 Nn47 Ha47 G47 (fits_nar_char _) W47 7 rfl (Nat.le_of_ble_eq_true rfl)
    have c48 : SS p e below S0 (T47.setTop (mkF m 78 #[vi p0, vi pk, vr uk, .unset, .unset, .unset, .unset, .unset] [(.ref b21)])) := c46.trans (st47 _ (Steps.refl _))
    have N47 := Fr.snoc X47 N44 (Nat.le_trans Z0 ge23)
    have z47 : n0 ≤ h47.size := Nat.le_trans z44 (Keep.of_wr W47).1
    have K47 := K44.wr W47 (Or.inr ge23)
    exact ⟨T47, _, _, N47, X47, e47, K47, z47, (((((((((X00.ext E21).wr W26 (Nat.le_trans Z0 ge23)).wr W29 (Nat.le_trans Z0 ge23)).wr W32 (Nat.le_trans Z0 ge23)).wr W35 (Nat.le_trans Z0 ge23)).wr W38 (Nat.le_trans Z0 ge23)).wr W41 (Nat.le_trans Z0 ge23)).wr W44 (Nat.le_trans Z0 ge23)).wr W47 (Nat.le_trans Z0 ge23)), V47, c48⟩
  obtain ⟨T49, h49, l49, N49, X49, e49, K49, z49, O49, V49_b21, c49⟩ : ∃ (T : State) (h : Heap) (locs : List Loc), Fr n0 locs ∧ Stand p l e room_1 s m #[(.int p0)] below meth c T locs 1 64 ∧ T.heap = h ∧ Keep h0 h [] ∧ n0 ≤ h.size ∧ Old Z n0 h ∧ Arv Z h b21 k21 .char (64 : Int32) [(.int (nar .char (65 : Int32))), (.int (nar .char (98 : Int32))), (.int (nar .char (90 : Int32))), (.int (nar .char (122 : Int32))), (.int (nar .char (48 : Int32))), (.int (nar .char (57 : Int32))), (.int (nar .char (45 : Int32))), (.int (nar .char (95 : Int32))), (.int (nar .char (65 : Int32))), (.int (nar .char (98 : Int32))), (.int (nar .char (90 : Int32))), (.int (nar .char (122 : Int32))), (.int (nar .char (48 : Int32))), (.int (nar .char (57 : Int32))), (.int (nar .char (45 : Int32))), (.int (nar .char (95 : Int32))), (.int 0), (.int 0), (.int 0), (.int 0), (.int 0), (.int 0), (.int 0), (.int 0), (.int 0), (.int 0), (.int 0), (.int 0), (.int 0), (.int 0), (.int 0), (.int 0), (.int 0), (.int 0), (.int 0), (.int 0), (.int 0), (.int 0), (.int 0), (.int 0), (.int 0), (.int 0), (.int 0), (.int 0), (.int 0), (.int 0), (.int 0), (.int 0), (.int 0), (.int 0), (.int 0), (.int 0), (.int 0), (.int 0), (.int 0), (.int 0), (.int 0), (.int 0), (.int 0), (.int 0), (.int 0), (.int 0), (.int 0), (.int 0)] (.int 0) ∧ SS p e below S0 (T.setTop (mkF m 126 #[vi p0, vi pk, vr uk, .unset, .unset, .unset, .unset, .unset] [(.ref b21)])) := by
    have c50 : SS p e below S0 (T24.setTop (mkF m 83 #[vi p0, vi pk, vr uk, .unset, .unset, .unset, .unset, .unset] [(.int 65), (.int 8), (.ref b21), (.ref b21)])) := c24.trans (by
      show SS p e below (T24.setTop (mkF m 78 #[vi p0, vi pk, vr uk, .unset, .unset, .unset, .unset, .unset] [(.ref b21)])) _
      refine XS.dup X24.here hx rfl (hb hby at_78) rfl rfl ?_
      refine XS.bipush X24.here hx rfl (hb hby at_79) ?_
      refine XS.bipush X24.here hx rfl (hb hby at_81) ?_
      exact Steps.refl _)
    obtain ⟨cl51, Ar51, q51, S51, Nn51, Ha51, G51⟩ := id V24_b21
    obtain ⟨T51, h51, X51, e51, W51, st51⟩ := stC X24 hx hZ e24 Ar51 (j := (8 : Int32)) (inb_of S51 ⟨by decide, by decide⟩) (g := (mkF m 83 #[vi p0, vi pk, vr uk, .unset, .unset, .unset, .unset, .unset] [(.int 65), (.int 8), (.ref b21), (.ref b21)])) rfl rfl (hb hby at_83)
    have V51 : Arv Z h51 b21 k21 .char (64 : Int32) [(.int (nar .char (65 : Int32))), (.int (nar .char (98 : Int32))), (.int (nar .char (90 : Int32))), (.int (nar .char (122 : Int32))), (.int (nar .char (48 : Int32))), (.int (nar .char (57 : Int32))), (.int (nar .char (45 : Int32))), (.int (nar .char (95 : Int32))), (.int (nar .char (65 : Int32))), (.int 0), (.int 0), (.int 0), (.int 0), (.int 0), (.int 0), (.int 0), (.int 0), (.int 0), (.int 0), (.int 0), (.int 0), (.int 0), (.int 0), (.int 0), (.int 0), (.int 0), (.int 0), (.int 0), (.int 0), (.int 0), (.int 0), (.int 0), (.int 0), (.int 0), (.int 0), (.int 0), (.int 0), (.int 0), (.int 0), (.int 0), (.int 0), (.int 0), (.int 0), (.int 0), (.int 0), (.int 0), (.int 0), (.int 0), (.int 0), (.int 0), (.int 0), (.int 0), (.int 0), (.int 0), (.int 0), (.int 0), (.int 0), (.int 0), (.int 0), (.int 0), (.int 0), (.int 0), (.int 0), (.int 0)] (.int 0) := Arv.set Ar51 q51 S51 Nn51 Ha51 G51 (fits_nar_char _) W51 8 rfl (Nat.le_of_ble_eq_true rfl)
    have c52 : SS p e below S0 (T51.setTop (mkF m 84 #[vi p0, vi pk, vr uk, .unset, .unset, .unset, .unset, .unset] [(.ref b21)])) := c50.trans (st51 _ (Steps.refl _))
    have N51 := Fr.snoc X51 N24 (Nat.le_trans Z0 ge23)
    have z51 : n0 ≤ h51.size := Nat.le_trans z24 (Keep.of_wr W51).1
    have K51 := K24.wr W51 (Or.inr ge23)
    have c53 : SS p e below S0 (T51.setTop (mkF m 89 #[vi p0, vi pk, vr uk, .unset, .unset, .unset, .unset, .unset] [(.int 98), (.int 9), (.ref b21), (.ref b21)])) := c52.trans (by
      show SS p e below (T51.setTop (mkF m 84 #[vi p0, vi pk, vr uk, .unset, .unset, .unset, .unset, .unset] [(.ref b21)])) _
      refine XS.dup X51.here hx rfl (hb hby at_84) rfl rfl ?_
      refine XS.bipush X51.here hx rfl (hb hby at_85) ?_
      refine XS.bipush X51.here hx rfl (hb hby at_87) ?_
      exact Steps.refl _)
    obtain ⟨cl54, Ar54, q54, S54, Nn54, Ha54, G54⟩ := id V51
    obtain ⟨T54, h54, X54, e54, W54, st54⟩ := stC X51 hx hZ e51 Ar54 (j := (9 : Int32)) (inb_of S54 ⟨by decide, by decide⟩) (g := (mkF m 89 #[vi p0, vi pk, vr uk, .unset, .unset, .unset, .unset, .unset] [(.int 98), (.int 9), (.ref b21), (.ref b21)])) rfl rfl (hb hby at_89)
    have V54 : Arv Z h54 b21 k21 .char (64 : Int32) [(.int (nar .char (65 : Int32))), (.int (nar .char (98 : Int32))), (.int (nar .char (90 : Int32))), (.int (nar .char (122 : Int32))), (.int (nar .char (48 : Int32))), (.int (nar .char (57 : Int32))), (.int (nar .char (45 : Int32))), (.int (nar .char (95 : Int32))), (.int (nar .char (65 : Int32))), (.int (nar .char (98 : Int32))), (.int 0), (.int 0), (.int 0), (.int 0), (.int 0), (.int 0), (.int 0), (.int 0), (.int 0), (.int 0), (.int 0), (.int 0), (.int 0), (.int 0), (.int 0), (.int 0), (.int 0), (.int 0), (.int 0), (.int 0), (.int 0), (.int 0), (.int 0), (.int 0), (.int 0), (.int 0), (.int 0), (.int 0), (.int 0), (.int 0), (.int 0), (.int 0), (.int 0), (.int 0), (.int 0), (.int 0), (.int 0), (.int 0), (.int 0), (.int 0), (.int 0), (.int 0), (.int 0), (.int 0), (.int 0), (.int 0), (.int 0), (.int 0), (.int 0), (.int 0), (.int 0), (.int 0), (.int 0), (.int 0)] (.int 0) := Arv.set Ar54 q54 S54 Nn54 Ha54 G54 (fits_nar_char _) W54 9 rfl (Nat.le_of_ble_eq_true rfl)
    have c55 : SS p e below S0 (T54.setTop (mkF m 90 #[vi p0, vi pk, vr uk, .unset, .unset, .unset, .unset, .unset] [(.ref b21)])) := c53.trans (st54 _ (Steps.refl _))
    have N54 := Fr.snoc X54 N51 (Nat.le_trans Z0 ge23)
    have z54 : n0 ≤ h54.size := Nat.le_trans z51 (Keep.of_wr W54).1
    have K54 := K51.wr W54 (Or.inr ge23)
    have c56 : SS p e below S0 (T54.setTop (mkF m 95 #[vi p0, vi pk, vr uk, .unset, .unset, .unset, .unset, .unset] [(.int 90), (.int 10), (.ref b21), (.ref b21)])) := c55.trans (by
      show SS p e below (T54.setTop (mkF m 90 #[vi p0, vi pk, vr uk, .unset, .unset, .unset, .unset, .unset] [(.ref b21)])) _
      refine XS.dup X54.here hx rfl (hb hby at_90) rfl rfl ?_
      refine XS.bipush X54.here hx rfl (hb hby at_91) ?_
      refine XS.bipush X54.here hx rfl (hb hby at_93) ?_
      exact Steps.refl _)
    obtain ⟨cl57, Ar57, q57, S57, Nn57, Ha57, G57⟩ := id V54
    obtain ⟨T57, h57, X57, e57, W57, st57⟩ := stC X54 hx hZ e54 Ar57 (j := (10 : Int32)) (inb_of S57 ⟨by decide, by decide⟩) (g := (mkF m 95 #[vi p0, vi pk, vr uk, .unset, .unset, .unset, .unset, .unset] [(.int 90), (.int 10), (.ref b21), (.ref b21)])) rfl rfl (hb hby at_95)
    have V57 : Arv Z h57 b21 k21 .char (64 : Int32) [(.int (nar .char (65 : Int32))), (.int (nar .char (98 : Int32))), (.int (nar .char (90 : Int32))), (.int (nar .char (122 : Int32))), (.int (nar .char (48 : Int32))), (.int (nar .char (57 : Int32))), (.int (nar .char (45 : Int32))), (.int (nar .char (95 : Int32))), (.int (nar .char (65 : Int32))), (.int (nar .char (98 : Int32))), (.int (nar .char (90 : Int32))), (.int 0), (.int 0), (.int 0), (.int 0), (.int 0), (.int 0), (.int 0), (.int 0), (.int 0), (.int 0), (.int 0), (.int 0), (.int 0), (.int 0), (.int 0), (.int 0), (.int 0), (.int 0), (.int 0), (.int 0), (.int 0), (.int 0), (.int 0), (.int 0), (.int 0), (.int 0), (.int 0), (.int 0), (.int 0), (.int 0), (.int 0), (.int 0), (.int 0), (.int 0), (.int 0), (.int 0), (.int 0), (.int 0), (.int 0), (.int 0), (.int 0), (.int 0), (.int 0), (.int 0), (.int 0), (.int 0), (.int 0), (.int 0), (.int 0), (.int 0), (.int 0), (.int 0), (.int 0)] (.int 0) := Arv.set Ar57 q57 S57 Nn57 Ha57 G57 (fits_nar_char _) W57 10 rfl (Nat.le_of_ble_eq_true rfl)
    have c58 : SS p e below S0 (T57.setTop (mkF m 96 #[vi p0, vi pk, vr uk, .unset, .unset, .unset, .unset, .unset] [(.ref b21)])) := c56.trans (st57 _ (Steps.refl _))
    have N57 := Fr.snoc X57 N54 (Nat.le_trans Z0 ge23)
    have z57 : n0 ≤ h57.size := Nat.le_trans z54 (Keep.of_wr W57).1
    have K57 := K54.wr W57 (Or.inr ge23)
    have c59 : SS p e below S0 (T57.setTop (mkF m 101 #[vi p0, vi pk, vr uk, .unset, .unset, .unset, .unset, .unset] [(.int 122), (.int 11), (.ref b21), (.ref b21)])) := c58.trans (by
      show SS p e below (T57.setTop (mkF m 96 #[vi p0, vi pk, vr uk, .unset, .unset, .unset, .unset, .unset] [(.ref b21)])) _
      refine XS.dup X57.here hx rfl (hb hby at_96) rfl rfl ?_
      refine XS.bipush X57.here hx rfl (hb hby at_97) ?_
      refine XS.bipush X57.here hx rfl (hb hby at_99) ?_
      exact Steps.refl _)
    obtain ⟨cl60, Ar60, q60, S60, Nn60, Ha60, G60⟩ := id V57
    obtain ⟨T60, h60, X60, e60, W60, st60⟩ := stC X57 hx hZ e57 Ar60 (j := (11 : Int32)) (inb_of S60 ⟨by decide, by decide⟩) (g := (mkF m 101 #[vi p0, vi pk, vr uk, .unset, .unset, .unset, .unset, .unset] [(.int 122), (.int 11), (.ref b21), (.ref b21)])) rfl rfl (hb hby at_101)
    have V60 : Arv Z h60 b21 k21 .char (64 : Int32) [(.int (nar .char (65 : Int32))), (.int (nar .char (98 : Int32))), (.int (nar .char (90 : Int32))), (.int (nar .char (122 : Int32))), (.int (nar .char (48 : Int32))), (.int (nar .char (57 : Int32))), (.int (nar .char (45 : Int32))), (.int (nar .char (95 : Int32))), (.int (nar .char (65 : Int32))), (.int (nar .char (98 : Int32))), (.int (nar .char (90 : Int32))), (.int (nar .char (122 : Int32))), (.int 0), (.int 0), (.int 0), (.int 0), (.int 0), (.int 0), (.int 0), (.int 0), (.int 0), (.int 0), (.int 0), (.int 0), (.int 0), (.int 0), (.int 0), (.int 0), (.int 0), (.int 0), (.int 0), (.int 0), (.int 0), (.int 0), (.int 0), (.int 0), (.int 0), (.int 0), (.int 0), (.int 0), (.int 0), (.int 0), (.int 0), (.int 0), (.int 0), (.int 0), (.int 0), (.int 0), (.int 0), (.int 0), (.int 0), (.int 0), (.int 0), (.int 0), (.int 0), (.int 0), (.int 0), (.int 0), (.int 0), (.int 0), (.int 0), (.int 0), (.int 0), (.int 0)] (.int 0) := Arv.set Ar60 q60 S60 Nn60 Ha60 G60 (fits_nar_char _) W60 11 rfl (Nat.le_of_ble_eq_true rfl)
    have c61 : SS p e below S0 (T60.setTop (mkF m 102 #[vi p0, vi pk, vr uk, .unset, .unset, .unset, .unset, .unset] [(.ref b21)])) := c59.trans (st60 _ (Steps.refl _))
    have N60 := Fr.snoc X60 N57 (Nat.le_trans Z0 ge23)
    have z60 : n0 ≤ h60.size := Nat.le_trans z57 (Keep.of_wr W60).1
    have K60 := K57.wr W60 (Or.inr ge23)
    have c62 : SS p e below S0 (T60.setTop (mkF m 107 #[vi p0, vi pk, vr uk, .unset, .unset, .unset, .unset, .unset] [(.int 48), (.int 12), (.ref b21), (.ref b21)])) := c61.trans (by
      show SS p e below (T60.setTop (mkF m 102 #[vi p0, vi pk, vr uk, .unset, .unset, .unset, .unset, .unset] [(.ref b21)])) _
      refine XS.dup X60.here hx rfl (hb hby at_102) rfl rfl ?_
      refine XS.bipush X60.here hx rfl (hb hby at_103) ?_
      refine XS.bipush X60.here hx rfl (hb hby at_105) ?_
      exact Steps.refl _)
    obtain ⟨cl63, Ar63, q63, S63, Nn63, Ha63, G63⟩ := id V60
    obtain ⟨T63, h63, X63, e63, W63, st63⟩ := stC X60 hx hZ e60 Ar63 (j := (12 : Int32)) (inb_of S63 ⟨by decide, by decide⟩) (g := (mkF m 107 #[vi p0, vi pk, vr uk, .unset, .unset, .unset, .unset, .unset] [(.int 48), (.int 12), (.ref b21), (.ref b21)])) rfl rfl (hb hby at_107)
    have V63 : Arv Z h63 b21 k21 .char (64 : Int32) [(.int (nar .char (65 : Int32))), (.int (nar .char (98 : Int32))), (.int (nar .char (90 : Int32))), (.int (nar .char (122 : Int32))), (.int (nar .char (48 : Int32))), (.int (nar .char (57 : Int32))), (.int (nar .char (45 : Int32))), (.int (nar .char (95 : Int32))), (.int (nar .char (65 : Int32))), (.int (nar .char (98 : Int32))), (.int (nar .char (90 : Int32))), (.int (nar .char (122 : Int32))), (.int (nar .char (48 : Int32))), (.int 0), (.int 0), (.int 0), (.int 0), (.int 0), (.int 0), (.int 0), (.int 0), (.int 0), (.int 0), (.int 0), (.int 0), (.int 0), (.int 0), (.int 0), (.int 0), (.int 0), (.int 0), (.int 0), (.int 0), (.int 0), (.int 0), (.int 0), (.int 0), (.int 0), (.int 0), (.int 0), (.int 0), (.int 0), (.int 0), (.int 0), (.int 0), (.int 0), (.int 0), (.int 0), (.int 0), (.int 0), (.int 0), (.int 0), (.int 0), (.int 0), (.int 0), (.int 0), (.int 0), (.int 0), (.int 0), (.int 0), (.int 0), (.int 0), (.int 0), (.int 0)] (.int 0) := Arv.set Ar63 q63 S63 Nn63 Ha63 G63 (fits_nar_char _) W63 12 rfl (Nat.le_of_ble_eq_true rfl)
    have c64 : SS p e below S0 (T63.setTop (mkF m 108 #[vi p0, vi pk, vr uk, .unset, .unset, .unset, .unset, .unset] [(.ref b21)])) := c62.trans (st63 _ (Steps.refl _))
    have N63 := Fr.snoc X63 N60 (Nat.le_trans Z0 ge23)
    have z63 : n0 ≤ h63.size := Nat.le_trans z60 (Keep.of_wr W63).1
    have K63 := K60.wr W63 (Or.inr ge23)
    have c65 : SS p e below S0 (T63.setTop (mkF m 113 #[vi p0, vi pk, vr uk, .unset, .unset, .unset, .unset, .unset] [(.int 57), (.int 13), (.ref b21), (.ref b21)])) := c64.trans (by
      show SS p e below (T63.setTop (mkF m 108 #[vi p0, vi pk, vr uk, .unset, .unset, .unset, .unset, .unset] [(.ref b21)])) _
      refine XS.dup X63.here hx rfl (hb hby at_108) rfl rfl ?_
      refine XS.bipush X63.here hx rfl (hb hby at_109) ?_
      refine XS.bipush X63.here hx rfl (hb hby at_111) ?_
      exact Steps.refl _)
    obtain ⟨cl66, Ar66, q66, S66, Nn66, Ha66, G66⟩ := id V63
    obtain ⟨T66, h66, X66, e66, W66, st66⟩ := stC X63 hx hZ e63 Ar66 (j := (13 : Int32)) (inb_of S66 ⟨by decide, by decide⟩) (g := (mkF m 113 #[vi p0, vi pk, vr uk, .unset, .unset, .unset, .unset, .unset] [(.int 57), (.int 13), (.ref b21), (.ref b21)])) rfl rfl (hb hby at_113)
    have V66 : Arv Z h66 b21 k21 .char (64 : Int32) [(.int (nar .char (65 : Int32))), (.int (nar .char (98 : Int32))), (.int (nar .char (90 : Int32))), (.int (nar .char (122 : Int32))), (.int (nar .char (48 : Int32))), (.int (nar .char (57 : Int32))), (.int (nar .char (45 : Int32))), (.int (nar .char (95 : Int32))), (.int (nar .char (65 : Int32))), (.int (nar .char (98 : Int32))), (.int (nar .char (90 : Int32))), (.int (nar .char (122 : Int32))), (.int (nar .char (48 : Int32))), (.int (nar .char (57 : Int32))), (.int 0), (.int 0), (.int 0), (.int 0), (.int 0), (.int 0), (.int 0), (.int 0), (.int 0), (.int 0), (.int 0), (.int 0), (.int 0), (.int 0), (.int 0), (.int 0), (.int 0), (.int 0), (.int 0), (.int 0), (.int 0), (.int 0), (.int 0), (.int 0), (.int 0), (.int 0), (.int 0), (.int 0), (.int 0), (.int 0), (.int 0), (.int 0), (.int 0), (.int 0), (.int 0), (.int 0), (.int 0), (.int 0), (.int 0), (.int 0), (.int 0), (.int 0), (.int 0), (.int 0), (.int 0), (.int 0), (.int 0), (.int 0), (.int 0), (.int 0)] (.int 0) := Arv.set Ar66 q66 S66 Nn66 Ha66 G66 (fits_nar_char _) W66 13 rfl (Nat.le_of_ble_eq_true rfl)
    have c67 : SS p e below S0 (T66.setTop (mkF m 114 #[vi p0, vi pk, vr uk, .unset, .unset, .unset, .unset, .unset] [(.ref b21)])) := c65.trans (st66 _ (Steps.refl _))
    have N66 := Fr.snoc X66 N63 (Nat.le_trans Z0 ge23)
    have z66 : n0 ≤ h66.size := Nat.le_trans z63 (Keep.of_wr W66).1
    have K66 := K63.wr W66 (Or.inr ge23)
    have c68 : SS p e below S0 (T66.setTop (mkF m 119 #[vi p0, vi pk, vr uk, .unset, .unset, .unset, .unset, .unset] [(.int 45), (.int 14), (.ref b21), (.ref b21)])) := c67.trans (by
      show SS p e below (T66.setTop (mkF m 114 #[vi p0, vi pk, vr uk, .unset, .unset, .unset, .unset, .unset] [(.ref b21)])) _
      refine XS.dup X66.here hx rfl (hb hby at_114) rfl rfl ?_
      refine XS.bipush X66.here hx rfl (hb hby at_115) ?_
      refine XS.bipush X66.here hx rfl (hb hby at_117) ?_
      exact Steps.refl _)
    obtain ⟨cl69, Ar69, q69, S69, Nn69, Ha69, G69⟩ := id V66
    obtain ⟨T69, h69, X69, e69, W69, st69⟩ := stC X66 hx hZ e66 Ar69 (j := (14 : Int32)) (inb_of S69 ⟨by decide, by decide⟩) (g := (mkF m 119 #[vi p0, vi pk, vr uk, .unset, .unset, .unset, .unset, .unset] [(.int 45), (.int 14), (.ref b21), (.ref b21)])) rfl rfl (hb hby at_119)
    have V69 : Arv Z h69 b21 k21 .char (64 : Int32) [(.int (nar .char (65 : Int32))), (.int (nar .char (98 : Int32))), (.int (nar .char (90 : Int32))), (.int (nar .char (122 : Int32))), (.int (nar .char (48 : Int32))), (.int (nar .char (57 : Int32))), (.int (nar .char (45 : Int32))), (.int (nar .char (95 : Int32))), (.int (nar .char (65 : Int32))), (.int (nar .char (98 : Int32))), (.int (nar .char (90 : Int32))), (.int (nar .char (122 : Int32))), (.int (nar .char (48 : Int32))), (.int (nar .char (57 : Int32))), (.int (nar .char (45 : Int32))), (.int 0), (.int 0), (.int 0), (.int 0), (.int 0), (.int 0), (.int 0), (.int 0), (.int 0), (.int 0), (.int 0), (.int 0), (.int 0), (.int 0), (.int 0), (.int 0), (.int 0), (.int 0), (.int 0), (.int 0), (.int 0), (.int 0), (.int 0), (.int 0), (.int 0), (.int 0), (.int 0), (.int 0), (.int 0), (.int 0), (.int 0), (.int 0), (.int 0), (.int 0), (.int 0), (.int 0), (.int 0), (.int 0), (.int 0), (.int 0), (.int 0), (.int 0), (.int 0), (.int 0), (.int 0), (.int 0), (.int 0), (.int 0), (.int 0)] (.int 0) := Arv.set Ar69 q69 S69 Nn69 Ha69 G69 (fits_nar_char _) W69 14 rfl (Nat.le_of_ble_eq_true rfl)
    have c70 : SS p e below S0 (T69.setTop (mkF m 120 #[vi p0, vi pk, vr uk, .unset, .unset, .unset, .unset, .unset] [(.ref b21)])) := c68.trans (st69 _ (Steps.refl _))
    have N69 := Fr.snoc X69 N66 (Nat.le_trans Z0 ge23)
    have z69 : n0 ≤ h69.size := Nat.le_trans z66 (Keep.of_wr W69).1
    have K69 := K66.wr W69 (Or.inr ge23)
    have c71 : SS p e below S0 (T69.setTop (mkF m 125 #[vi p0, vi pk, vr uk, .unset, .unset, .unset, .unset, .unset] [(.int 95), (.int 15), (.ref b21), (.ref b21)])) := c70.trans (by
      show SS p e below (T69.setTop (mkF m 120 #[vi p0, vi pk, vr uk, .unset, .unset, .unset, .unset, .unset] [(.ref b21)])) _
      refine XS.dup X69.here hx rfl (hb hby at_120) rfl rfl ?_
      refine XS.bipush X69.here hx rfl (hb hby at_121) ?_
      refine XS.bipush X69.here hx rfl (hb hby at_123) ?_
      exact Steps.refl _)
    obtain ⟨cl72, Ar72, q72, S72, Nn72, Ha72, G72⟩ := id V69
    obtain ⟨T72, h72, X72, e72, W72, st72⟩ := stC X69 hx hZ e69 Ar72 (j := (15 : Int32)) (inb_of S72 ⟨by decide, by decide⟩) (g := (mkF m 125 #[vi p0, vi pk, vr uk, .unset, .unset, .unset, .unset, .unset] [(.int 95), (.int 15), (.ref b21), (.ref b21)])) rfl rfl (hb hby at_125)
    have V72 : Arv Z h72 b21 k21 .char (64 : Int32) [(.int (nar .char (65 : Int32))), (.int (nar .char (98 : Int32))), (.int (nar .char (90 : Int32))), (.int (nar .char (122 : Int32))), (.int (nar .char (48 : Int32))), (.int (nar .char (57 : Int32))), (.int (nar .char (45 : Int32))), (.int (nar .char (95 : Int32))), (.int (nar .char (65 : Int32))), (.int (nar .char (98 : Int32))), (.int (nar .char (90 : Int32))), (.int (nar .char (122 : Int32))), (.int (nar .char (48 : Int32))), (.int (nar .char (57 : Int32))), (.int (nar .char (45 : Int32))), (.int (nar .char (95 : Int32))), (.int 0), (.int 0), (.int 0), (.int 0), (.int 0), (.int 0), (.int 0), (.int 0), (.int 0), (.int 0), (.int 0), (.int 0), (.int 0), (.int 0), (.int 0), (.int 0), (.int 0), (.int 0), (.int 0), (.int 0), (.int 0), (.int 0), (.int 0), (.int 0), (.int 0), (.int 0), (.int 0), (.int 0), (.int 0), (.int 0), (.int 0), (.int 0), (.int 0), (.int 0), (.int 0), (.int 0), (.int 0), (.int 0), (.int 0), (.int 0), (.int 0), (.int 0), (.int 0), (.int 0), (.int 0), (.int 0), (.int 0), (.int 0)] (.int 0) := Arv.set Ar72 q72 S72 Nn72 Ha72 G72 (fits_nar_char _) W72 15 rfl (Nat.le_of_ble_eq_true rfl)
    have c73 : SS p e below S0 (T72.setTop (mkF m 126 #[vi p0, vi pk, vr uk, .unset, .unset, .unset, .unset, .unset] [(.ref b21)])) := c71.trans (st72 _ (Steps.refl _))
    have N72 := Fr.snoc X72 N69 (Nat.le_trans Z0 ge23)
    have z72 : n0 ≤ h72.size := Nat.le_trans z69 (Keep.of_wr W72).1
    have K72 := K69.wr W72 (Or.inr ge23)
    exact ⟨T72, _, _, N72, X72, e72, K72, z72, ((((((((O24.wr W51 (Nat.le_trans Z0 ge23)).wr W54 (Nat.le_trans Z0 ge23)).wr W57 (Nat.le_trans Z0 ge23)).wr W60 (Nat.le_trans Z0 ge23)).wr W63 (Nat.le_trans Z0 ge23)).wr W66 (Nat.le_trans Z0 ge23)).wr W69 (Nat.le_trans Z0 ge23)).wr W72 (Nat.le_trans Z0 ge23)), V72, c73⟩
  obtain ⟨T74, h74, l74, N74, X74, e74, K74, z74, O74, V74_b21, c74⟩ : ∃ (T : State) (h : Heap) (locs : List Loc), Fr n0 locs ∧ Stand p l e room_1 s m #[(.int p0)] below meth c T locs 1 64 ∧ T.heap = h ∧ Keep h0 h [] ∧ n0 ≤ h.size ∧ Old Z n0 h ∧ Arv Z h b21 k21 .char (64 : Int32) [(.int (nar .char (65 : Int32))), (.int (nar .char (98 : Int32))), (.int (nar .char (90 : Int32))), (.int (nar .char (122 : Int32))), (.int (nar .char (48 : Int32))), (.int (nar .char (57 : Int32))), (.int (nar .char (45 : Int32))), (.int (nar .char (95 : Int32))), (.int (nar .char (65 : Int32))), (.int (nar .char (98 : Int32))), (.int (nar .char (90 : Int32))), (.int (nar .char (122 : Int32))), (.int (nar .char (48 : Int32))), (.int (nar .char (57 : Int32))), (.int (nar .char (45 : Int32))), (.int (nar .char (95 : Int32))), (.int (nar .char (65 : Int32))), (.int (nar .char (98 : Int32))), (.int (nar .char (90 : Int32))), (.int (nar .char (122 : Int32))), (.int (nar .char (48 : Int32))), (.int (nar .char (57 : Int32))), (.int (nar .char (45 : Int32))), (.int (nar .char (95 : Int32))), (.int 0), (.int 0), (.int 0), (.int 0), (.int 0), (.int 0), (.int 0), (.int 0), (.int 0), (.int 0), (.int 0), (.int 0), (.int 0), (.int 0), (.int 0), (.int 0), (.int 0), (.int 0), (.int 0), (.int 0), (.int 0), (.int 0), (.int 0), (.int 0), (.int 0), (.int 0), (.int 0), (.int 0), (.int 0), (.int 0), (.int 0), (.int 0), (.int 0), (.int 0), (.int 0), (.int 0), (.int 0), (.int 0), (.int 0), (.int 0)] (.int 0) ∧ SS p e below S0 (T.setTop (mkF m 174 #[vi p0, vi pk, vr uk, .unset, .unset, .unset, .unset, .unset] [(.ref b21)])) := by
    have c75 : SS p e below S0 (T49.setTop (mkF m 131 #[vi p0, vi pk, vr uk, .unset, .unset, .unset, .unset, .unset] [(.int 65), (.int 16), (.ref b21), (.ref b21)])) := c49.trans (by
      show SS p e below (T49.setTop (mkF m 126 #[vi p0, vi pk, vr uk, .unset, .unset, .unset, .unset, .unset] [(.ref b21)])) _
      refine XS.dup X49.here hx rfl (hb hby at_126) rfl rfl ?_
      refine XS.bipush X49.here hx rfl (hb hby at_127) ?_
      refine XS.bipush X49.here hx rfl (hb hby at_129) ?_
      exact Steps.refl _)
    obtain ⟨cl76, Ar76, q76, S76, Nn76, Ha76, G76⟩ := id V49_b21
    obtain ⟨T76, h76, X76, e76, W76, st76⟩ := stC X49 hx hZ e49 Ar76 (j := (16 : Int32)) (inb_of S76 ⟨by decide, by decide⟩) (g := (mkF m 131 #[vi p0, vi pk, vr uk, .unset, .unset, .unset, .unset, .unset] [(.int 65), (.int 16), (.ref b21), (.ref b21)])) rfl rfl (hb hby at_131)
    have V76 : Arv Z h76 b21 k21 .char (64 : Int32) [(.int (nar .char (65 : Int32))), (.int (nar .char (98 : Int32))), (.int (nar .char (90 : Int32))), (.int (nar .char (122 : Int32))), (.int (nar .char (48 : Int32))), (.int (nar .char (57 : Int32))), (.int (nar .char (45 : Int32))), (.int (nar .char (95 : Int32))), (.int (nar .char (65 : Int32))), (.int (nar .char (98 : Int32))), (.int (nar .char (90 : Int32))), (.int (nar .char (122 : Int32))), (.int (nar .char (48 : Int32))), (.int (nar .char (57 : Int32))), (.int (nar .char (45 : Int32))), (.int (nar .char (95 : Int32))), (.int (nar .char (65 : Int32))), (.int 0), (.int 0), (.int 0), (.int 0), (.int 0), (.int 0), (.int 0), (.int 0), (.int 0), (.int 0), (.int 0), (.int 0), (.int 0), (.int 0), (.int 0), (.int 0), (.int 0), (.int 0), (.int 0), (.int 0), (.int 0), (.int 0), (.int 0), (.int 0), (.int 0), (.int 0), (.int 0), (.int 0), (.int 0), (.int 0), (.int 0), (.int 0), (.int 0), (.int 0), (.int 0), (.int 0), (.int 0), (.int 0), (.int 0), (.int 0), (.int 0), (.int 0), (.int 0), (.int 0), (.int 0), (.int 0), (.int 0)] (.int 0) := Arv.set Ar76 q76 S76 Nn76 Ha76 G76 (fits_nar_char _) W76 16 rfl (Nat.le_of_ble_eq_true rfl)
    have c77 : SS p e below S0 (T76.setTop (mkF m 132 #[vi p0, vi pk, vr uk, .unset, .unset, .unset, .unset, .unset] [(.ref b21)])) := c75.trans (st76 _ (Steps.refl _))
    have N76 := Fr.snoc X76 N49 (Nat.le_trans Z0 ge23)
    have z76 : n0 ≤ h76.size := Nat.le_trans z49 (Keep.of_wr W76).1
    have K76 := K49.wr W76 (Or.inr ge23)
    have c78 : SS p e below S0 (T76.setTop (mkF m 137 #[vi p0, vi pk, vr uk, .unset, .unset, .unset, .unset, .unset] [(.int 98), (.int 17), (.ref b21), (.ref b21)])) := c77.trans (by
      show SS p e below (T76.setTop (mkF m 132 #[vi p0, vi pk, vr uk, .unset, .unset, .unset, .unset, .unset] [(.ref b21)])) _
      refine XS.dup X76.here hx rfl (hb hby at_132) rfl rfl ?_
      refine XS.bipush X76.here hx rfl (hb hby at_133) ?_
      refine XS.bipush X76.here hx rfl (hb hby at_135) ?_
      exact Steps.refl _)
    obtain ⟨cl79, Ar79, q79, S79, Nn79, Ha79, G79⟩ := id V76
    obtain ⟨T79, h79, X79, e79, W79, st79⟩ := stC X76 hx hZ e76 Ar79 (j := (17 : Int32)) (inb_of S79 ⟨by decide, by decide⟩) (g := (mkF m 137 #[vi p0, vi pk, vr uk, .unset, .unset, .unset, .unset, .unset] [(.int 98), (.int 17), (.ref b21), (.ref b21)])) rfl rfl (hb hby at_137)
    have V79 : Arv Z h79 b21 k21 .char (64 : Int32) [(.int (nar .char (65 : Int32))), (.int (nar .char (98 : Int32))), (.int (nar .char (90 : Int32))), (.int (nar .char (122 : Int32))), (.int (nar .char (48 : Int32))), (.int (nar .char (57 : Int32))), (.int (nar .char (45 : Int32))), (.int (nar .char (95 : Int32))), (.int (nar .char (65 : Int32))), (.int (nar .char (98 : Int32))), (.int (nar .char (90 : Int32))), (.int (nar .char (122 : Int32))), (.int (nar .char (48 : Int32))), (.int (nar .char (57 : Int32))), (.int (nar .char (45 : Int32))), (.int (nar .char (95 : Int32))), (.int (nar .char (65 : Int32))), (.int (nar .char (98 : Int32))), (.int 0), (.int 0), (.int 0), (.int 0), (.int 0), (.int 0), (.int 0), (.int 0), (.int 0), (.int 0), (.int 0), (.int 0), (.int 0), (.int 0), (.int 0), (.int 0), (.int 0), (.int 0), (.int 0), (.int 0), (.int 0), (.int 0), (.int 0), (.int 0), (.int 0), (.int 0), (.int 0), (.int 0), (.int 0), (.int 0), (.int 0), (.int 0), (.int 0), (.int 0), (.int 0), (.int 0), (.int 0), (.int 0), (.int 0), (.int 0), (.int 0), (.int 0), (.int 0), (.int 0), (.int 0), (.int 0)] (.int 0) := Arv.set Ar79 q79 S79 Nn79 Ha79 G79 (fits_nar_char _) W79 17 rfl (Nat.le_of_ble_eq_true rfl)
    have c80 : SS p e below S0 (T79.setTop (mkF m 138 #[vi p0, vi pk, vr uk, .unset, .unset, .unset, .unset, .unset] [(.ref b21)])) := c78.trans (st79 _ (Steps.refl _))
    have N79 := Fr.snoc X79 N76 (Nat.le_trans Z0 ge23)
    have z79 : n0 ≤ h79.size := Nat.le_trans z76 (Keep.of_wr W79).1
    have K79 := K76.wr W79 (Or.inr ge23)
    have c81 : SS p e below S0 (T79.setTop (mkF m 143 #[vi p0, vi pk, vr uk, .unset, .unset, .unset, .unset, .unset] [(.int 90), (.int 18), (.ref b21), (.ref b21)])) := c80.trans (by
      show SS p e below (T79.setTop (mkF m 138 #[vi p0, vi pk, vr uk, .unset, .unset, .unset, .unset, .unset] [(.ref b21)])) _
      refine XS.dup X79.here hx rfl (hb hby at_138) rfl rfl ?_
      refine XS.bipush X79.here hx rfl (hb hby at_139) ?_
      refine XS.bipush X79.here hx rfl (hb hby at_141) ?_
      exact Steps.refl _)
    obtain ⟨cl82, Ar82, q82, S82, Nn82, Ha82, G82⟩ := id V79
    obtain ⟨T82, h82, X82, e82, W82, st82⟩ := stC X79 hx hZ e79 Ar82 (j := (18 : Int32)) (inb_of S82 ⟨by decide, by decide⟩) (g := (mkF m 143 #[vi p0, vi pk, vr uk, .unset, .unset, .unset, .unset, .unset] [(.int 90), (.int 18), (.ref b21), (.ref b21)])) rfl rfl (hb hby at_143)
    have V82 : Arv Z h82 b21 k21 .char (64 : Int32) [(.int (nar .char (65 : Int32))), (.int (nar .char (98 : Int32))), (.int (nar .char (90 : Int32))), (.int (nar .char (122 : Int32))), (.int (nar .char (48 : Int32))), (.int (nar .char (57 : Int32))), (.int (nar .char (45 : Int32))), (.int (nar .char (95 : Int32))), (.int (nar .char (65 : Int32))), (.int (nar .char (98 : Int32))), (.int (nar .char (90 : Int32))), (.int (nar .char (122 : Int32))), (.int (nar .char (48 : Int32))), (.int (nar .char (57 : Int32))), (.int (nar .char (45 : Int32))), (.int (nar .char (95 : Int32))), (.int (nar .char (65 : Int32))), (.int (nar .char (98 : Int32))), (.int (nar .char (90 : Int32))), (.int 0), (.int 0), (.int 0), (.int 0), (.int 0), (.int 0), (.int 0), (.int 0), (.int 0), (.int 0), (.int 0), (.int 0), (.int 0), (.int 0), (.int 0), (.int 0), (.int 0), (.int 0), (.int 0), (.int 0), (.int 0), (.int 0), (.int 0), (.int 0), (.int 0), (.int 0), (.int 0), (.int 0), (.int 0), (.int 0), (.int 0), (.int 0), (.int 0), (.int 0), (.int 0), (.int 0), (.int 0), (.int 0), (.int 0), (.int 0), (.int 0), (.int 0), (.int 0), (.int 0), (.int 0)] (.int 0) := Arv.set Ar82 q82 S82 Nn82 Ha82 G82 (fits_nar_char _) W82 18 rfl (Nat.le_of_ble_eq_true rfl)
    have c83 : SS p e below S0 (T82.setTop (mkF m 144 #[vi p0, vi pk, vr uk, .unset, .unset, .unset, .unset, .unset] [(.ref b21)])) := c81.trans (st82 _ (Steps.refl _))
    have N82 := Fr.snoc X82 N79 (Nat.le_trans Z0 ge23)
    have z82 : n0 ≤ h82.size := Nat.le_trans z79 (Keep.of_wr W82).1
    have K82 := K79.wr W82 (Or.inr ge23)
    have c84 : SS p e below S0 (T82.setTop (mkF m 149 #[vi p0, vi pk, vr uk, .unset, .unset, .unset, .unset, .unset] [(.int 122), (.int 19), (.ref b21), (.ref b21)])) := c83.trans (by
      show SS p e below (T82.setTop (mkF m 144 #[vi p0, vi pk, vr uk, .unset, .unset, .unset, .unset, .unset] [(.ref b21)])) _
      refine XS.dup X82.here hx rfl (hb hby at_144) rfl rfl ?_
      refine XS.bipush X82.here hx rfl (hb hby at_145) ?_
      refine XS.bipush X82.here hx rfl (hb hby at_147) ?_
      exact Steps.refl _)
    obtain ⟨cl85, Ar85, q85, S85, Nn85, Ha85, G85⟩ := id V82
    obtain ⟨T85, h85, X85, e85, W85, st85⟩ := stC X82 hx hZ e82 Ar85 (j := (19 : Int32)) (inb_of S85 ⟨by decide, by decide⟩) (g := (mkF m 149 #[vi p0, vi pk, vr uk, .unset, .unset, .unset, .unset, .unset] [(.int 122), (.int 19), (.ref b21), (.ref b21)])) rfl rfl (hb hby at_149)
    have V85 : Arv Z h85 b21 k21 .char (64 : Int32) [(.int (nar .char (65 : Int32))), (.int (nar .char (98 : Int32))), (.int (nar .char (90 : Int32))), (.int (nar .char (122 : Int32))), (.int (nar .char (48 : Int32))), (.int (nar .char (57 : Int32))), (.int (nar .char (45 : Int32))), (.int (nar .char (95 : Int32))), (.int (nar .char (65 : Int32))), (.int (nar .char (98 : Int32))), (.int (nar .char (90 : Int32))), (.int (nar .char (122 : Int32))), (.int (nar .char (48 : Int32))), (.int (nar .char (57 : Int32))), (.int (nar .char (45 : Int32))), (.int (nar .char (95 : Int32))), (.int (nar .char (65 : Int32))), (.int (nar .char (98 : Int32))), (.int (nar .char (90 : Int32))), (.int (nar .char (122 : Int32))), (.int 0), (.int 0), (.int 0), (.int 0), (.int 0), (.int 0), (.int 0), (.int 0), (.int 0), (.int 0), (.int 0), (.int 0), (.int 0), (.int 0), (.int 0), (.int 0), (.int 0), (.int 0), (.int 0), (.int 0), (.int 0), (.int 0), (.int 0), (.int 0), (.int 0), (.int 0), (.int 0), (.int 0), (.int 0), (.int 0), (.int 0), (.int 0), (.int 0), (.int 0), (.int 0), (.int 0), (.int 0), (.int 0), (.int 0), (.int 0), (.int 0), (.int 0), (.int 0), (.int 0)] (.int 0) := Arv.set Ar85 q85 S85 Nn85 Ha85 G85 (fits_nar_char _) W85 19 rfl (Nat.le_of_ble_eq_true rfl)
    have c86 : SS p e below S0 (T85.setTop (mkF m 150 #[vi p0, vi pk, vr uk, .unset, .unset, .unset, .unset, .unset] [(.ref b21)])) := c84.trans (st85 _ (Steps.refl _))
    have N85 := Fr.snoc X85 N82 (Nat.le_trans Z0 ge23)
    have z85 : n0 ≤ h85.size := Nat.le_trans z82 (Keep.of_wr W85).1
    have K85 := K82.wr W85 (Or.inr ge23)
    have c87 : SS p e below S0 (T85.setTop (mkF m 155 #[vi p0, vi pk, vr uk, .unset, .unset, .unset, .unset, .unset] [(.int 48), (.int 20), (.ref b21), (.ref b21)])) := c86.trans (by
      show SS p e below (T85.setTop (mkF m 150 #[vi p0, vi pk, vr uk, .unset, .unset, .unset, .unset, .unset] [(.ref b21)])) _
      refine XS.dup X85.here hx rfl (hb hby at_150) rfl rfl ?_
      refine XS.bipush X85.here hx rfl (hb hby at_151) ?_
      refine XS.bipush X85.here hx rfl (hb hby at_153) ?_
      exact Steps.refl _)
    obtain ⟨cl88, Ar88, q88, S88, Nn88, Ha88, G88⟩ := id V85
    obtain ⟨T88, h88, X88, e88, W88, st88⟩ := stC X85 hx hZ e85 Ar88 (j := (20 : Int32)) (inb_of S88 ⟨by decide, by decide⟩) (g := (mkF m 155 #[vi p0, vi pk, vr uk, .unset, .unset, .unset, .unset, .unset] [(.int 48), (.int 20), (.ref b21), (.ref b21)])) rfl rfl (hb hby at_155)
    have V88 : Arv Z h88 b21 k21 .char (64 : Int32) [(.int (nar .char (65 : Int32))), (.int (nar .char (98 : Int32))), (.int (nar .char (90 : Int32))), (.int (nar .char (122 : Int32))), (.int (nar .char (48 : Int32))), (.int (nar .char (57 : Int32))), (.int (nar .char (45 : Int32))), (.int (nar .char (95 : Int32))), (.int (nar .char (65 : Int32))), (.int (nar .char (98 : Int32))), (.int (nar .char (90 : Int32))), (.int (nar .char (122 : Int32))), (.int (nar .char (48 : Int32))), (.int (nar .char (57 : Int32))), (.int (nar .char (45 : Int32))), (.int (nar .char (95 : Int32))), (.int (nar .char (65 : Int32))), (.int (nar .char (98 : Int32))), (.int (nar .char (90 : Int32))), (.int (nar .char (122 : Int32))), (.int (nar .char (48 : Int32))), (.int 0), (.int 0), (.int 0), (.int 0), (.int 0), (.int 0), (.int 0), (.int 0), (.int 0), (.int 0), (.int 0), (.int 0), (.int 0), (.int 0), (.int 0), (.int 0), (.int 0), (.int 0), (.int 0), (.int 0), (.int 0), (.int 0), (.int 0), (.int 0), (.int 0), (.int 0), (.int 0), (.int 0), (.int 0), (.int 0), (.int 0), (.int 0), (.int 0), (.int 0), (.int 0), (.int 0), (.int 0), (.int 0), (.int 0), (.int 0), (.int 0), (.int 0), (.int 0)] (.int 0) := Arv.set Ar88 q88 S88 Nn88 Ha88 G88 (fits_nar_char _) W88 20 rfl (Nat.le_of_ble_eq_true rfl)
    have c89 : SS p e below S0 (T88.setTop (mkF m 156 #[vi p0, vi pk, vr uk, .unset, .unset, .unset, .unset, .unset] [(.ref b21)])) := c87.trans (st88 _ (Steps.refl _))
    have N88 := Fr.snoc X88 N85 (Nat.le_trans Z0 ge23)
    have z88 : n0 ≤ h88.size := Nat.le_trans z85 (Keep.of_wr W88).1
    have K88 := K85.wr W88 (Or.inr ge23)
    have c90 : SS p e below S0 (T88.setTop (mkF m 161 #[vi p0, vi pk, vr uk, .unset, .unset, .unset, .unset, .unset] [(.int 57), (.int 21), (.ref b21), (.ref b21)])) := c89.trans (by
      show SS p e below (T88.setTop (mkF m 156 #[vi p0, vi pk, vr uk, .unset, .unset, .unset, .unset, .unset] [(.ref b21)])) _
      refine XS.dup X88.here hx rfl (hb hby at_156) rfl rfl ?_
      refine XS.bipush X88.here hx rfl (hb hby at_157) ?_
      refine XS.bipush X88.here hx rfl (hb hby at_159) ?_
      exact Steps.refl _)
    obtain ⟨cl91, Ar91, q91, S91, Nn91, Ha91, G91⟩ := id V88
    obtain ⟨T91, h91, X91, e91, W91, st91⟩ := stC X88 hx hZ e88 Ar91 (j := (21 : Int32)) (inb_of S91 ⟨by decide, by decide⟩) (g := (mkF m 161 #[vi p0, vi pk, vr uk, .unset, .unset, .unset, .unset, .unset] [(.int 57), (.int 21), (.ref b21), (.ref b21)])) rfl rfl (hb hby at_161)
    have V91 : Arv Z h91 b21 k21 .char (64 : Int32) [(.int (nar .char (65 : Int32))), (.int (nar .char (98 : Int32))), (.int (nar .char (90 : Int32))), (.int (nar .char (122 : Int32))), (.int (nar .char (48 : Int32))), (.int (nar .char (57 : Int32))), (.int (nar .char (45 : Int32))), (.int (nar .char (95 : Int32))), (.int (nar .char (65 : Int32))), (.int (nar .char (98 : Int32))), (.int (nar .char (90 : Int32))), (.int (nar .char (122 : Int32))), (.int (nar .char (48 : Int32))), (.int (nar .char (57 : Int32))), (.int (nar .char (45 : Int32))), (.int (nar .char (95 : Int32))), (.int (nar .char (65 : Int32))), (.int (nar .char (98 : Int32))), (.int (nar .char (90 : Int32))), (.int (nar .char (122 : Int32))), (.int (nar .char (48 : Int32))), (.int (nar .char (57 : Int32))), (.int 0), (.int 0), (.int 0), (.int 0), (.int 0), (.int 0), (.int 0), (.int 0), (.int 0), (.int 0), (.int 0), (.int 0), (.int 0), (.int 0), (.int 0), (.int 0), (.int 0), (.int 0), (.int 0), (.int 0), (.int 0), (.int 0), (.int 0), (.int 0), (.int 0), (.int 0), (.int 0), (.int 0), (.int 0), (.int 0), (.int 0), (.int 0), (.int 0), (.int 0), (.int 0), (.int 0), (.int 0), (.int 0), (.int 0), (.int 0), (.int 0), (.int 0)] (.int 0) := Arv.set Ar91 q91 S91 Nn91 Ha91 G91 (fits_nar_char _) W91 21 rfl (Nat.le_of_ble_eq_true rfl)
    have c92 : SS p e below S0 (T91.setTop (mkF m 162 #[vi p0, vi pk, vr uk, .unset, .unset, .unset, .unset, .unset] [(.ref b21)])) := c90.trans (st91 _ (Steps.refl _))
    have N91 := Fr.snoc X91 N88 (Nat.le_trans Z0 ge23)
    have z91 : n0 ≤ h91.size := Nat.le_trans z88 (Keep.of_wr W91).1
    have K91 := K88.wr W91 (Or.inr ge23)
    have c93 : SS p e below S0 (T91.setTop (mkF m 167 #[vi p0, vi pk, vr uk, .unset, .unset, .unset, .unset, .unset] [(.int 45), (.int 22), (.ref b21), (.ref b21)])) := c92.trans (by
      show SS p e below (T91.setTop (mkF m 162 #[vi p0, vi pk, vr uk, .unset, .unset, .unset, .unset, .unset] [(.ref b21)])) _
      refine XS.dup X91.here hx rfl (hb hby at_162) rfl rfl ?_
      refine XS.bipush X91.here hx rfl (hb hby at_163) ?_
      refine XS.bipush X91.here hx rfl (hb hby at_165) ?_
      exact Steps.refl _)
    obtain ⟨cl94, Ar94, q94, S94, Nn94, Ha94, G94⟩ := id V91
    obtain ⟨T94, h94, X94, e94, W94, st94⟩ := stC X91 hx hZ e91 Ar94 (j := (22 : Int32)) (inb_of S94 ⟨by decide, by decide⟩) (g := (mkF m 167 #[vi p0, vi pk, vr uk, .unset, .unset, .unset, .unset, .unset] [(.int 45), (.int 22), (.ref b21), (.ref b21)])) rfl rfl (hb hby at_167)
    have V94 : Arv Z h94 b21 k21 .char (64 : Int32) [(.int (nar .char (65 : Int32))), (.int (nar .char (98 : Int32))), (.int (nar .char (90 : Int32))), (.int (nar .char (122 : Int32))), (.int (nar .char (48 : Int32))), (.int (nar .char (57 : Int32))), (.int (nar .char (45 : Int32))), (.int (nar .char (95 : Int32))), (.int (nar .char (65 : Int32))), (.int (nar .char (98 : Int32))), (.int (nar .char (90 : Int32))), (.int (nar .char (122 : Int32))), (.int (nar .char (48 : Int32))), (.int (nar .char (57 : Int32))), (.int (nar .char (45 : Int32))), (.int (nar .char (95 : Int32))), (.int (nar .char (65 : Int32))), (.int (nar .char (98 : Int32))), (.int (nar .char (90 : Int32))), (.int (nar .char (122 : Int32))), (.int (nar .char (48 : Int32))), (.int (nar .char (57 : Int32))), (.int (nar .char (45 : Int32))), (.int 0), (.int 0), (.int 0), (.int 0), (.int 0), (.int 0), (.int 0), (.int 0), (.int 0), (.int 0), (.int 0), (.int 0), (.int 0), (.int 0), (.int 0), (.int 0), (.int 0), (.int 0), (.int 0), (.int 0), (.int 0), (.int 0), (.int 0), (.int 0), (.int 0), (.int 0), (.int 0), (.int 0), (.int 0), (.int 0), (.int 0), (.int 0), (.int 0), (.int 0), (.int 0), (.int 0), (.int 0), (.int 0), (.int 0), (.int 0), (.int 0)] (.int 0) := Arv.set Ar94 q94 S94 Nn94 Ha94 G94 (fits_nar_char _) W94 22 rfl (Nat.le_of_ble_eq_true rfl)
    have c95 : SS p e below S0 (T94.setTop (mkF m 168 #[vi p0, vi pk, vr uk, .unset, .unset, .unset, .unset, .unset] [(.ref b21)])) := c93.trans (st94 _ (Steps.refl _))
    have N94 := Fr.snoc X94 N91 (Nat.le_trans Z0 ge23)
    have z94 : n0 ≤ h94.size := Nat.le_trans z91 (Keep.of_wr W94).1
    have K94 := K91.wr W94 (Or.inr ge23)
    have c96 : SS p e below S0 (T94.setTop (mkF m 173 #[vi p0, vi pk, vr uk, .unset, .unset, .unset, .unset, .unset] [(.int 95), (.int 23), (.ref b21), (.ref b21)])) := c95.trans (by
      show SS p e below (T94.setTop (mkF m 168 #[vi p0, vi pk, vr uk, .unset, .unset, .unset, .unset, .unset] [(.ref b21)])) _
      refine XS.dup X94.here hx rfl (hb hby at_168) rfl rfl ?_
      refine XS.bipush X94.here hx rfl (hb hby at_169) ?_
      refine XS.bipush X94.here hx rfl (hb hby at_171) ?_
      exact Steps.refl _)
    obtain ⟨cl97, Ar97, q97, S97, Nn97, Ha97, G97⟩ := id V94
    obtain ⟨T97, h97, X97, e97, W97, st97⟩ := stC X94 hx hZ e94 Ar97 (j := (23 : Int32)) (inb_of S97 ⟨by decide, by decide⟩) (g := (mkF m 173 #[vi p0, vi pk, vr uk, .unset, .unset, .unset, .unset, .unset] [(.int 95), (.int 23), (.ref b21), (.ref b21)])) rfl rfl (hb hby at_173)
    have V97 : Arv Z h97 b21 k21 .char (64 : Int32) [(.int (nar .char (65 : Int32))), (.int (nar .char (98 : Int32))), (.int (nar .char (90 : Int32))), (.int (nar .char (122 : Int32))), (.int (nar .char (48 : Int32))), (.int (nar .char (57 : Int32))), (.int (nar .char (45 : Int32))), (.int (nar .char (95 : Int32))), (.int (nar .char (65 : Int32))), (.int (nar .char (98 : Int32))), (.int (nar .char (90 : Int32))), (.int (nar .char (122 : Int32))), (.int (nar .char (48 : Int32))), (.int (nar .char (57 : Int32))), (.int (nar .char (45 : Int32))), (.int (nar .char (95 : Int32))), (.int (nar .char (65 : Int32))), (.int (nar .char (98 : Int32))), (.int (nar .char (90 : Int32))), (.int (nar .char (122 : Int32))), (.int (nar .char (48 : Int32))), (.int (nar .char (57 : Int32))), (.int (nar .char (45 : Int32))), (.int (nar .char (95 : Int32))), (.int 0), (.int 0), (.int 0), (.int 0), (.int 0), (.int 0), (.int 0), (.int 0), (.int 0), (.int 0), (.int 0), (.int 0), (.int 0), (.int 0), (.int 0), (.int 0), (.int 0), (.int 0), (.int 0), (.int 0), (.int 0), (.int 0), (.int 0), (.int 0), (.int 0), (.int 0), (.int 0), (.int 0), (.int 0), (.int 0), (.int 0), (.int 0), (.int 0), (.int 0), (.int 0), (.int 0), (.int 0), (.int 0), (.int 0), (.int 0)] (.int 0) := Arv.set Ar97 q97 S97 Nn97 Ha97 G97 (fits_nar_char _) W97 23 rfl (Nat.le_of_ble_eq_true rfl)
    have c98 : SS p e below S0 (T97.setTop (mkF m 174 #[vi p0, vi pk, vr uk, .unset, .unset, .unset, .unset, .unset] [(.ref b21)])) := c96.trans (st97 _ (Steps.refl _))
    have N97 := Fr.snoc X97 N94 (Nat.le_trans Z0 ge23)
    have z97 : n0 ≤ h97.size := Nat.le_trans z94 (Keep.of_wr W97).1
    have K97 := K94.wr W97 (Or.inr ge23)
    exact ⟨T97, _, _, N97, X97, e97, K97, z97, ((((((((O49.wr W76 (Nat.le_trans Z0 ge23)).wr W79 (Nat.le_trans Z0 ge23)).wr W82 (Nat.le_trans Z0 ge23)).wr W85 (Nat.le_trans Z0 ge23)).wr W88 (Nat.le_trans Z0 ge23)).wr W91 (Nat.le_trans Z0 ge23)).wr W94 (Nat.le_trans Z0 ge23)).wr W97 (Nat.le_trans Z0 ge23)), V97, c98⟩
  obtain ⟨T99, h99, l99, N99, X99, e99, K99, z99, O99, V99_b21, c99⟩ : ∃ (T : State) (h : Heap) (locs : List Loc), Fr n0 locs ∧ Stand p l e room_1 s m #[(.int p0)] below meth c T locs 1 64 ∧ T.heap = h ∧ Keep h0 h [] ∧ n0 ≤ h.size ∧ Old Z n0 h ∧ Arv Z h b21 k21 .char (64 : Int32) [(.int (nar .char (65 : Int32))), (.int (nar .char (98 : Int32))), (.int (nar .char (90 : Int32))), (.int (nar .char (122 : Int32))), (.int (nar .char (48 : Int32))), (.int (nar .char (57 : Int32))), (.int (nar .char (45 : Int32))), (.int (nar .char (95 : Int32))), (.int (nar .char (65 : Int32))), (.int (nar .char (98 : Int32))), (.int (nar .char (90 : Int32))), (.int (nar .char (122 : Int32))), (.int (nar .char (48 : Int32))), (.int (nar .char (57 : Int32))), (.int (nar .char (45 : Int32))), (.int (nar .char (95 : Int32))), (.int (nar .char (65 : Int32))), (.int (nar .char (98 : Int32))), (.int (nar .char (90 : Int32))), (.int (nar .char (122 : Int32))), (.int (nar .char (48 : Int32))), (.int (nar .char (57 : Int32))), (.int (nar .char (45 : Int32))), (.int (nar .char (95 : Int32))), (.int (nar .char (65 : Int32))), (.int (nar .char (98 : Int32))), (.int (nar .char (90 : Int32))), (.int (nar .char (122 : Int32))), (.int (nar .char (48 : Int32))), (.int (nar .char (57 : Int32))), (.int (nar .char (45 : Int32))), (.int (nar .char (95 : Int32))), (.int 0), (.int 0), (.int 0), (.int 0), (.int 0), (.int 0), (.int 0), (.int 0), (.int 0), (.int 0), (.int 0), (.int 0), (.int 0), (.int 0), (.int 0), (.int 0), (.int 0), (.int 0), (.int 0), (.int 0), (.int 0), (.int 0), (.int 0), (.int 0), (.int 0), (.int 0), (.int 0), (.int 0), (.int 0), (.int 0), (.int 0), (.int 0)] (.int 0) ∧ SS p e below S0 (T.setTop (mkF m 222 #[vi p0, vi pk, vr uk, .unset, .unset, .unset, .unset, .unset] [(.ref b21)])) := by
    have c100 : SS p e below S0 (T74.setTop (mkF m 179 #[vi p0, vi pk, vr uk, .unset, .unset, .unset, .unset, .unset] [(.int 65), (.int 24), (.ref b21), (.ref b21)])) := c74.trans (by
      show SS p e below (T74.setTop (mkF m 174 #[vi p0, vi pk, vr uk, .unset, .unset, .unset, .unset, .unset] [(.ref b21)])) _
      refine XS.dup X74.here hx rfl (hb hby at_174) rfl rfl ?_
      refine XS.bipush X74.here hx rfl (hb hby at_175) ?_
      refine XS.bipush X74.here hx rfl (hb hby at_177) ?_
      exact Steps.refl _)
    obtain ⟨cl101, Ar101, q101, S101, Nn101, Ha101, G101⟩ := id V74_b21
    obtain ⟨T101, h101, X101, e101, W101, st101⟩ := stC X74 hx hZ e74 Ar101 (j := (24 : Int32)) (inb_of S101 ⟨by decide, by decide⟩) (g := (mkF m 179 #[vi p0, vi pk, vr uk, .unset, .unset, .unset, .unset, .unset] [(.int 65), (.int 24), (.ref b21), (.ref b21)])) rfl rfl (hb hby at_179)
    have V101 : Arv Z h101 b21 k21 .char (64 : Int32) [(.int (nar .char (65 : Int32))), (.int (nar .char (98 : Int32))), (.int (nar .char (90 : Int32))), (.int (nar .char (122 : Int32))), (.int (nar .char (48 : Int32))), (.int (nar .char (57 : Int32))), (.int (nar .char (45 : Int32))), (.int (nar .char (95 : Int32))), (.int (nar .char (65 : Int32))), (.int (nar .char (98 : Int32))), (.int (nar .char (90 : Int32))), (.int (nar .char (122 : Int32))), (.int (nar .char (48 : Int32))), (.int (nar .char (57 : Int32))), (.int (nar .char (45 : Int32))), (.int (nar .char (95 : Int32))), (.int (nar .char (65 : Int32))), (.int (nar .char (98 : Int32))), (.int (nar .char (90 : Int32))), (.int (nar .char (122 : Int32))), (.int (nar .char (48 : Int32))), (.int (nar .char (57 : Int32))), (.int (nar .char (45 : Int32))), (.int (nar .char (95 : Int32))), (.int (nar .char (65 : Int32))), (.int 0), (.int 0), (.int 0), (.int 0), (.int 0), (.int 0), (.int 0), (.int 0), (.int 0), (.int 0), (.int 0), (.int 0), (.int 0), (.int 0), (.int 0), (.int 0), (.int 0), (.int 0), (.int 0), (.int 0), (.int 0), (.int 0), (.int 0), (.int 0), (.int 0), (.int 0), (.int 0), (.int 0), (.int 0), (.int 0), (.int 0), (.int 0), (.int 0), (.int 0), (.int 0), (.int 0), (.int 0), (.int 0), (.int 0)] (.int 0) := Arv.set Ar101 q101 S101 Nn101 Ha101 G101 (fits_nar_char _) W101 24 rfl (Nat.le_of_ble_eq_true rfl)
    have c102 : SS p e below S0 (T101.setTop (mkF m 180 #[vi p0, vi pk, vr uk, .unset, .unset, .unset, .unset, .unset] [(.ref b21)])) := c100.trans (st101 _ (Steps.refl _))
    have N101 := Fr.snoc X101 N74 (Nat.le_trans Z0 ge23)
    have z101 : n0 ≤ h101.size := Nat.le_trans z74 (Keep.of_wr W101).1
    have K101 := K74.wr W101 (Or.inr ge23)
    have c103 : SS p e below S0 (T101.setTop (mkF m 185 #[vi p0, vi pk, vr uk, .unset, .unset, .unset, .unset, .unset] [(.int 98), (.int 25), (.ref b21), (.ref b21)])) := c102.trans (by
      show SS p e below (T101.setTop (mkF m 180 #[vi p0, vi pk, vr uk, .unset, .unset, .unset, .unset, .unset] [(.ref b21)])) _
      refine XS.dup X101.here hx rfl (hb hby at_180) rfl rfl ?_
      refine XS.bipush X101.here hx rfl (hb hby at_181) ?_
      refine XS.bipush X101.here hx rfl (hb hby at_183) ?_
      exact Steps.refl _)
    obtain ⟨cl104, Ar104, q104, S104, Nn104, Ha104, G104⟩ := id V101
    obtain ⟨T104, h104, X104, e104, W104, st104⟩ := stC X101 hx hZ e101 Ar104 (j := (25 : Int32)) (inb_of S104 ⟨by decide, by decide⟩) (g := (mkF m 185 #[vi p0, vi pk, vr uk, .unset, .unset, .unset, .unset, .unset] [(.int 98), (.int 25), (.ref b21), (.ref b21)])) rfl rfl (hb hby at_185)
    have V104 : Arv Z h104 b21 k21 .char (64 : Int32) [(.int (nar .char (65 : Int32))), (.int (nar .char (98 : Int32))), (.int (nar .char (90 : Int32))), (.int (nar .char (122 : Int32))), (.int (nar .char (48 : Int32))), (.int (nar .char (57 : Int32))), (.int (nar .char (45 : Int32))), (.int (nar .char (95 : Int32))), (.int (nar .char (65 : Int32))), (.int (nar .char (98 : Int32))), (.int (nar .char (90 : Int32))), (.int (nar .char (122 : Int32))), (.int (nar .char (48 : Int32))), (.int (nar .char (57 : Int32))), (.int (nar .char (45 : Int32))), (.int (nar .char (95 : Int32))), (.int (nar .char (65 : Int32))), (.int (nar .char (98 : Int32))), (.int (nar .char (90 : Int32))), (.int (nar .char (122 : Int32))), (.int (nar .char (48 : Int32))), (.int (nar .char (57 : Int32))), (.int (nar .char (45 : Int32))), (.int (nar .char (95 : Int32))), (.int (nar .char (65 : Int32))), (.int (nar .char (98 : Int32))), (.int 0), (.int 0), (.int 0), (.int 0), (.int 0), (.int 0), (.int 0), (.int 0), (.int 0), (.int 0), (.int 0), (.int 0), (.int 0), (.int 0), (.int 0), (.int 0), (.int 0), (.int 0), (.int 0), (.int 0), (.int 0), (.int 0), (.int 0), (.int 0), (.int 0), (.int 0), (.int 0), (.int 0), (.int 0), (.int 0), (.int 0), (.int 0), (.int 0), (.int 0), (.int 0), (.int 0), (.int 0), (.int 0)] (.int 0) := Arv.set Ar104 q104 S104 Nn104 Ha104 G104 (fits_nar_char _) W104 25 rfl (Nat.le_of_ble_eq_true rfl)
    have c105 : SS p e below S0 (T104.setTop (mkF m 186 #[vi p0, vi pk, vr uk, .unset, .unset, .unset, .unset, .unset] [(.ref b21)])) := c103.trans (st104 _ (Steps.refl _))
    have N104 := Fr.snoc X104 N101 (Nat.le_trans Z0 ge23)
    have z104 : n0 ≤ h104.size := Nat.le_trans z101 (Keep.of_wr W104).1
    have K104 := K101.wr W104 (Or.inr ge23)
    have c106 : SS p e below S0 (T104.setTop (mkF m 191 #[vi p0, vi pk, vr uk, .unset, .unset, .unset, .unset, .unset] [(.int 90), (.int 26), (.ref b21), (.ref b21)])) := c105.trans (by
      show SS p e below (T104.setTop (mkF m 186 #[vi p0, vi pk, vr uk, .unset, .unset, .unset, .unset, .unset] [(.ref b21)])) _
      refine XS.dup X104.here hx rfl (hb hby at_186) rfl rfl ?_
      refine XS.bipush X104.here hx rfl (hb hby at_187) ?_
      refine XS.bipush X104.here hx rfl (hb hby at_189) ?_
      exact Steps.refl _)
    obtain ⟨cl107, Ar107, q107, S107, Nn107, Ha107, G107⟩ := id V104
    obtain ⟨T107, h107, X107, e107, W107, st107⟩ := stC X104 hx hZ e104 Ar107 (j := (26 : Int32)) (inb_of S107 ⟨by decide, by decide⟩) (g := (mkF m 191 #[vi p0, vi pk, vr uk, .unset, .unset, .unset, .unset, .unset] [(.int 90), (.int 26), (.ref b21), (.ref b21)])) rfl rfl (hb hby at_191)
    have V107 : Arv Z h107 b21 k21 .char (64 : Int32) [(.int (nar .char (65 : Int32))), (.int (nar .char (98 : Int32))), (.int (nar .char (90 : Int32))), (.int (nar .char (122 : Int32))), (.int (nar .char (48 : Int32))), (.int (nar .char (57 : Int32))), (.int (nar .char (45 : Int32))), (.int (nar .char (95 : Int32))), (.int (nar .char (65 : Int32))), (.int (nar .char (98 : Int32))), (.int (nar .char (90 : Int32))), (.int (nar .char (122 : Int32))), (.int (nar .char (48 : Int32))), (.int (nar .char (57 : Int32))), (.int (nar .char (45 : Int32))), (.int (nar .char (95 : Int32))), (.int (nar .char (65 : Int32))), (.int (nar .char (98 : Int32))), (.int (nar .char (90 : Int32))), (.int (nar .char (122 : Int32))), (.int (nar .char (48 : Int32))), (.int (nar .char (57 : Int32))), (.int (nar .char (45 : Int32))), (.int (nar .char (95 : Int32))), (.int (nar .char (65 : Int32))), (.int (nar .char (98 : Int32))), (.int (nar .char (90 : Int32))), (.int 0), (.int 0), (.int 0), (.int 0), (.int 0), (.int 0), (.int 0), (.int 0), (.int 0), (.int 0), (.int 0), (.int 0), (.int 0), (.int 0), (.int 0), (.int 0), (.int 0), (.int 0), (.int 0), (.int 0), (.int 0), (.int 0), (.int 0), (.int 0), (.int 0), (.int 0), (.int 0), (.int 0), (.int 0), (.int 0), (.int 0), (.int 0), (.int 0), (.int 0), (.int 0), (.int 0), (.int 0)] (.int 0) := Arv.set Ar107 q107 S107 Nn107 Ha107 G107 (fits_nar_char _) W107 26 rfl (Nat.le_of_ble_eq_true rfl)
    have c108 : SS p e below S0 (T107.setTop (mkF m 192 #[vi p0, vi pk, vr uk, .unset, .unset, .unset, .unset, .unset] [(.ref b21)])) := c106.trans (st107 _ (Steps.refl _))
    have N107 := Fr.snoc X107 N104 (Nat.le_trans Z0 ge23)
    have z107 : n0 ≤ h107.size := Nat.le_trans z104 (Keep.of_wr W107).1
    have K107 := K104.wr W107 (Or.inr ge23)
    have c109 : SS p e below S0 (T107.setTop (mkF m 197 #[vi p0, vi pk, vr uk, .unset, .unset, .unset, .unset, .unset] [(.int 122), (.int 27), (.ref b21), (.ref b21)])) := c108.trans (by
      show SS p e below (T107.setTop (mkF m 192 #[vi p0, vi pk, vr uk, .unset, .unset, .unset, .unset, .unset] [(.ref b21)])) _
      refine XS.dup X107.here hx rfl (hb hby at_192) rfl rfl ?_
      refine XS.bipush X107.here hx rfl (hb hby at_193) ?_
      refine XS.bipush X107.here hx rfl (hb hby at_195) ?_
      exact Steps.refl _)
    obtain ⟨cl110, Ar110, q110, S110, Nn110, Ha110, G110⟩ := id V107
    obtain ⟨T110, h110, X110, e110, W110, st110⟩ := stC X107 hx hZ e107 Ar110 (j := (27 : Int32)) (inb_of S110 ⟨by decide, by decide⟩) (g := (mkF m 197 #[vi p0, vi pk, vr uk, .unset, .unset, .unset, .unset, .unset] [(.int 122), (.int 27), (.ref b21), (.ref b21)])) rfl rfl (hb hby at_197)
    have V110 : Arv Z h110 b21 k21 .char (64 : Int32) [(.int (nar .char (65 : Int32))), (.int (nar .char (98 : Int32))), (.int (nar .char (90 : Int32))), (.int (nar .char (122 : Int32))), (.int (nar .char (48 : Int32))), (.int (nar .char (57 : Int32))), (.int (nar .char (45 : Int32))), (.int (nar .char (95 : Int32))), (.int (nar .char (65 : Int32))), (.int (nar .char (98 : Int32))), (.int (nar .char (90 : Int32))), (.int (nar .char (122 : Int32))), (.int (nar .char (48 : Int32))), (.int (nar .char (57 : Int32))), (.int (nar .char (45 : Int32))), (.int (nar .char (95 : Int32))), (.int (nar .char (65 : Int32))), (.int (nar .char (98 : Int32))), (.int (nar .char (90 : Int32))), (.int (nar .char (122 : Int32))), (.int (nar .char (48 : Int32))), (.int (nar .char (57 : Int32))), (.int (nar .char (45 : Int32))), (.int (nar .char (95 : Int32))), (.int (nar .char (65 : Int32))), (.int (nar .char (98 : Int32))), (.int (nar .char (90 : Int32))), (.int (nar .char (122 : Int32))), (.int 0), (.int 0), (.int 0), (.int 0), (.int 0), (.int 0), (.int 0), (.int 0), (.int 0), (.int 0), (.int 0), (.int 0), (.int 0), (.int 0), (.int 0), (.int 0), (.int 0), (.int 0), (.int 0), (.int 0), (.int 0), (.int 0), (.int 0), (.int 0), (.int 0), (.int 0), (.int 0), (.int 0), (.int 0), (.int 0), (.int 0), (.int 0), (.int 0), (.int 0), (.int 0), (.int 0)] (.int 0) := Arv.set Ar110 q110 S110 Nn110 Ha110 G110 (fits_nar_char _) W110 27 rfl (Nat.le_of_ble_eq_true rfl)
    have c111 : SS p e below S0 (T110.setTop (mkF m 198 #[vi p0, vi pk, vr uk, .unset, .unset, .unset, .unset, .unset] [(.ref b21)])) := c109.trans (st110 _ (Steps.refl _))
    have N110 := Fr.snoc X110 N107 (Nat.le_trans Z0 ge23)
    have z110 : n0 ≤ h110.size := Nat.le_trans z107 (Keep.of_wr W110).1
    have K110 := K107.wr W110 (Or.inr ge23)
    have c112 : SS p e below S0 (T110.setTop (mkF m 203 #[vi p0, vi pk, vr uk, .unset, .unset, .unset, .unset, .unset] [(.int 48), (.int 28), (.ref b21), (.ref b21)])) := c111.trans (by
      show SS p e below (T110.setTop (mkF m 198 #[vi p0, vi pk, vr uk, .unset, .unset, .unset, .unset, .unset] [(.ref b21)])) _
      refine XS.dup X110.here hx rfl (hb hby at_198) rfl rfl ?_
      refine XS.bipush X110.here hx rfl (hb hby at_199) ?_
      refine XS.bipush X110.here hx rfl (hb hby at_201) ?_
      exact Steps.refl _)
    obtain ⟨cl113, Ar113, q113, S113, Nn113, Ha113, G113⟩ := id V110
    obtain ⟨T113, h113, X113, e113, W113, st113⟩ := stC X110 hx hZ e110 Ar113 (j := (28 : Int32)) (inb_of S113 ⟨by decide, by decide⟩) (g := (mkF m 203 #[vi p0, vi pk, vr uk, .unset, .unset, .unset, .unset, .unset] [(.int 48), (.int 28), (.ref b21), (.ref b21)])) rfl rfl (hb hby at_203)
    have V113 : Arv Z h113 b21 k21 .char (64 : Int32) [(.int (nar .char (65 : Int32))), (.int (nar .char (98 : Int32))), (.int (nar .char (90 : Int32))), (.int (nar .char (122 : Int32))), (.int (nar .char (48 : Int32))), (.int (nar .char (57 : Int32))), (.int (nar .char (45 : Int32))), (.int (nar .char (95 : Int32))), (.int (nar .char (65 : Int32))), (.int (nar .char (98 : Int32))), (.int (nar .char (90 : Int32))), (.int (nar .char (122 : Int32))), (.int (nar .char (48 : Int32))), (.int (nar .char (57 : Int32))), (.int (nar .char (45 : Int32))), (.int (nar .char (95 : Int32))), (.int (nar .char (65 : Int32))), (.int (nar .char (98 : Int32))), (.int (nar .char (90 : Int32))), (.int (nar .char (122 : Int32))), (.int (nar .char (48 : Int32))), (.int (nar .char (57 : Int32))), (.int (nar .char (45 : Int32))), (.int (nar .char (95 : Int32))), (.int (nar .char (65 : Int32))), (.int (nar .char (98 : Int32))), (.int (nar .char (90 : Int32))), (.int (nar .char (122 : Int32))), (.int (nar .char (48 : Int32))), (.int 0), (.int 0), (.int 0), (.int 0), (.int 0), (.int 0), (.int 0), (.int 0), (.int 0), (.int 0), (.int 0), (.int 0), (.int 0), (.int 0), (.int 0), (.int 0), (.int 0), (.int 0), (.int 0), (.int 0), (.int 0), (.int 0), (.int 0), (.int 0), (.int 0), (.int 0), (.int 0), (.int 0), (.int 0), (.int 0), (.int 0), (.int 0), (.int 0), (.int 0), (.int 0)] (.int 0) := Arv.set Ar113 q113 S113 Nn113 Ha113 G113 (fits_nar_char _) W113 28 rfl (Nat.le_of_ble_eq_true rfl)
    have c114 : SS p e below S0 (T113.setTop (mkF m 204 #[vi p0, vi pk, vr uk, .unset, .unset, .unset, .unset, .unset] [(.ref b21)])) := c112.trans (st113 _ (Steps.refl _))
    have N113 := Fr.snoc X113 N110 (Nat.le_trans Z0 ge23)
    have z113 : n0 ≤ h113.size := Nat.le_trans z110 (Keep.of_wr W113).1
    have K113 := K110.wr W113 (Or.inr ge23)
    have c115 : SS p e below S0 (T113.setTop (mkF m 209 #[vi p0, vi pk, vr uk, .unset, .unset, .unset, .unset, .unset] [(.int 57), (.int 29), (.ref b21), (.ref b21)])) := c114.trans (by
      show SS p e below (T113.setTop (mkF m 204 #[vi p0, vi pk, vr uk, .unset, .unset, .unset, .unset, .unset] [(.ref b21)])) _
      refine XS.dup X113.here hx rfl (hb hby at_204) rfl rfl ?_
      refine XS.bipush X113.here hx rfl (hb hby at_205) ?_
      refine XS.bipush X113.here hx rfl (hb hby at_207) ?_
      exact Steps.refl _)
    obtain ⟨cl116, Ar116, q116, S116, Nn116, Ha116, G116⟩ := id V113
    obtain ⟨T116, h116, X116, e116, W116, st116⟩ := stC X113 hx hZ e113 Ar116 (j := (29 : Int32)) (inb_of S116 ⟨by decide, by decide⟩) (g := (mkF m 209 #[vi p0, vi pk, vr uk, .unset, .unset, .unset, .unset, .unset] [(.int 57), (.int 29), (.ref b21), (.ref b21)])) rfl rfl (hb hby at_209)
    have V116 : Arv Z h116 b21 k21 .char (64 : Int32) [(.int (nar .char (65 : Int32))), (.int (nar .char (98 : Int32))), (.int (nar .char (90 : Int32))), (.int (nar .char (122 : Int32))), (.int (nar .char (48 : Int32))), (.int (nar .char (57 : Int32))), (.int (nar .char (45 : Int32))), (.int (nar .char (95 : Int32))), (.int (nar .char (65 : Int32))), (.int (nar .char (98 : Int32))), (.int (nar .char (90 : Int32))), (.int (nar .char (122 : Int32))), (.int (nar .char (48 : Int32))), (.int (nar .char (57 : Int32))), (.int (nar .char (45 : Int32))), (.int (nar .char (95 : Int32))), (.int (nar .char (65 : Int32))), (.int (nar .char (98 : Int32))), (.int (nar .char (90 : Int32))), (.int (nar .char (122 : Int32))), (.int (nar .char (48 : Int32))), (.int (nar .char (57 : Int32))), (.int (nar .char (45 : Int32))), (.int (nar .char (95 : Int32))), (.int (nar .char (65 : Int32))), (.int (nar .char (98 : Int32))), (.int (nar .char (90 : Int32))), (.int (nar .char (122 : Int32))), (.int (nar .char (48 : Int32))), (.int (nar .char (57 : Int32))), (.int 0), (.int 0), (.int 0), (.int 0), (.int 0), (.int 0), (.int 0), (.int 0), (.int 0), (.int 0), (.int 0), (.int 0), (.int 0), (.int 0), (.int 0), (.int 0), (.int 0), (.int 0), (.int 0), (.int 0), (.int 0), (.int 0), (.int 0), (.int 0), (.int 0), (.int 0), (.int 0), (.int 0), (.int 0), (.int 0), (.int 0), (.int 0), (.int 0), (.int 0)] (.int 0) := Arv.set Ar116 q116 S116 Nn116 Ha116 G116 (fits_nar_char _) W116 29 rfl (Nat.le_of_ble_eq_true rfl)
    have c117 : SS p e below S0 (T116.setTop (mkF m 210 #[vi p0, vi pk, vr uk, .unset, .unset, .unset, .unset, .unset] [(.ref b21)])) := c115.trans (st116 _ (Steps.refl _))
    have N116 := Fr.snoc X116 N113 (Nat.le_trans Z0 ge23)
    have z116 : n0 ≤ h116.size := Nat.le_trans z113 (Keep.of_wr W116).1
    have K116 := K113.wr W116 (Or.inr ge23)
    have c118 : SS p e below S0 (T116.setTop (mkF m 215 #[vi p0, vi pk, vr uk, .unset, .unset, .unset, .unset, .unset] [(.int 45), (.int 30), (.ref b21), (.ref b21)])) := c117.trans (by
      show SS p e below (T116.setTop (mkF m 210 #[vi p0, vi pk, vr uk, .unset, .unset, .unset, .unset, .unset] [(.ref b21)])) _
      refine XS.dup X116.here hx rfl (hb hby at_210) rfl rfl ?_
      refine XS.bipush X116.here hx rfl (hb hby at_211) ?_
      refine XS.bipush X116.here hx rfl (hb hby at_213) ?_
      exact Steps.refl _)
    obtain ⟨cl119, Ar119, q119, S119, Nn119, Ha119, G119⟩ := id V116
    obtain ⟨T119, h119, X119, e119, W119, st119⟩ := stC X116 hx hZ e116 Ar119 (j := (30 : Int32)) (inb_of S119 ⟨by decide, by decide⟩) (g := (mkF m 215 #[vi p0, vi pk, vr uk, .unset, .unset, .unset, .unset, .unset] [(.int 45), (.int 30), (.ref b21), (.ref b21)])) rfl rfl (hb hby at_215)
    have V119 : Arv Z h119 b21 k21 .char (64 : Int32) [(.int (nar .char (65 : Int32))), (.int (nar .char (98 : Int32))), (.int (nar .char (90 : Int32))), (.int (nar .char (122 : Int32))), (.int (nar .char (48 : Int32))), (.int (nar .char (57 : Int32))), (.int (nar .char (45 : Int32))), (.int (nar .char (95 : Int32))), (.int (nar .char (65 : Int32))), (.int (nar .char (98 : Int32))), (.int (nar .char (90 : Int32))), (.int (nar .char (122 : Int32))), (.int (nar .char (48 : Int32))), (.int (nar .char (57 : Int32))), (.int (nar .char (45 : Int32))), (.int (nar .char (95 : Int32))), (.int (nar .char (65 : Int32))), (.int (nar .char (98 : Int32))), (.int (nar .char (90 : Int32))), (.int (nar .char (122 : Int32))), (.int (nar .char (48 : Int32))), (.int (nar .char (57 : Int32))), (.int (nar .char (45 : Int32))), (.int (nar .char (95 : Int32))), (.int (nar .char (65 : Int32))), (.int (nar .char (98 : Int32))), (.int (nar .char (90 : Int32))), (.int (nar .char (122 : Int32))), (.int (nar .char (48 : Int32))), (.int (nar .char (57 : Int32))), (.int (nar .char (45 : Int32))), (.int 0), (.int 0), (.int 0), (.int 0), (.int 0), (.int 0), (.int 0), (.int 0), (.int 0), (.int 0), (.int 0), (.int 0), (.int 0), (.int 0), (.int 0), (.int 0), (.int 0), (.int 0), (.int 0), (.int 0), (.int 0), (.int 0), (.int 0), (.int 0), (.int 0), (.int 0), (.int 0), (.int 0), (.int 0), (.int 0), (.int 0), (.int 0), (.int 0)] (.int 0) := Arv.set Ar119 q119 S119 Nn119 Ha119 G119 (fits_nar_char _) W119 30 rfl (Nat.le_of_ble_eq_true rfl)
    have c120 : SS p e below S0 (T119.setTop (mkF m 216 #[vi p0, vi pk, vr uk, .unset, .unset, .unset, .unset, .unset] [(.ref b21)])) := c118.trans (st119 _ (Steps.refl _))
    have N119 := Fr.snoc X119 N116 (Nat.le_trans Z0 ge23)
    have z119 : n0 ≤ h119.size := Nat.le_trans z116 (Keep.of_wr W119).1
    have K119 := K116.wr W119 (Or.inr ge23)
    have c121 : SS p e below S0 (T119.setTop (mkF m 221 #[vi p0, vi pk, vr uk, .unset, .unset, .unset, .unset, .unset] [(.int 95), (.int 31), (.ref b21), (.ref b21)])) := c120.trans (by
      show SS p e below (T119.setTop (mkF m 216 #[vi p0, vi pk, vr uk, .unset, .unset, .unset, .unset, .unset] [(.ref b21)])) _
      refine XS.dup X119.here hx rfl (hb hby at_216) rfl rfl ?_
      refine XS.bipush X119.here hx rfl (hb hby at_217) ?_
      refine XS.bipush X119.here hx rfl (hb hby at_219) ?_
      exact Steps.refl _)
    obtain ⟨cl122, Ar122, q122, S122, Nn122, Ha122, G122⟩ := id V119
    obtain ⟨T122, h122, X122, e122, W122, st122⟩ := stC X119 hx hZ e119 Ar122 (j := (31 : Int32)) (inb_of S122 ⟨by decide, by decide⟩) (g := (mkF m 221 #[vi p0, vi pk, vr uk, .unset, .unset, .unset, .unset, .unset] [(.int 95), (.int 31), (.ref b21), (.ref b21)])) rfl rfl (hb hby at_221)
    have V122 : Arv Z h122 b21 k21 .char (64 : Int32) [(.int (nar .char (65 : Int32))), (.int (nar .char (98 : Int32))), (.int (nar .char (90 : Int32))), (.int (nar .char (122 : Int32))), (.int (nar .char (48 : Int32))), (.int (nar .char (57 : Int32))), (.int (nar .char (45 : Int32))), (.int (nar .char (95 : Int32))), (.int (nar .char (65 : Int32))), (.int (nar .char (98 : Int32))), (.int (nar .char (90 : Int32))), (.int (nar .char (122 : Int32))), (.int (nar .char (48 : Int32))), (.int (nar .char (57 : Int32))), (.int (nar .char (45 : Int32))), (.int (nar .char (95 : Int32))), (.int (nar .char (65 : Int32))), (.int (nar .char (98 : Int32))), (.int (nar .char (90 : Int32))), (.int (nar .char (122 : Int32))), (.int (nar .char (48 : Int32))), (.int (nar .char (57 : Int32))), (.int (nar .char (45 : Int32))), (.int (nar .char (95 : Int32))), (.int (nar .char (65 : Int32))), (.int (nar .char (98 : Int32))), (.int (nar .char (90 : Int32))), (.int (nar .char (122 : Int32))), (.int (nar .char (48 : Int32))), (.int (nar .char (57 : Int32))), (.int (nar .char (45 : Int32))), (.int (nar .char (95 : Int32))), (.int 0), (.int 0), (.int 0), (.int 0), (.int 0), (.int 0), (.int 0), (.int 0), (.int 0), (.int 0), (.int 0), (.int 0), (.int 0), (.int 0), (.int 0), (.int 0), (.int 0), (.int 0), (.int 0), (.int 0), (.int 0), (.int 0), (.int 0), (.int 0), (.int 0), (.int 0), (.int 0), (.int 0), (.int 0), (.int 0), (.int 0), (.int 0)] (.int 0) := Arv.set Ar122 q122 S122 Nn122 Ha122 G122 (fits_nar_char _) W122 31 rfl (Nat.le_of_ble_eq_true rfl)
    have c123 : SS p e below S0 (T122.setTop (mkF m 222 #[vi p0, vi pk, vr uk, .unset, .unset, .unset, .unset, .unset] [(.ref b21)])) := c121.trans (st122 _ (Steps.refl _))
    have N122 := Fr.snoc X122 N119 (Nat.le_trans Z0 ge23)
    have z122 : n0 ≤ h122.size := Nat.le_trans z119 (Keep.of_wr W122).1
    have K122 := K119.wr W122 (Or.inr ge23)
    exact ⟨T122, _, _, N122, X122, e122, K122, z122, ((((((((O74.wr W101 (Nat.le_trans Z0 ge23)).wr W104 (Nat.le_trans Z0 ge23)).wr W107 (Nat.le_trans Z0 ge23)).wr W110 (Nat.le_trans Z0 ge23)).wr W113 (Nat.le_trans Z0 ge23)).wr W116 (Nat.le_trans Z0 ge23)).wr W119 (Nat.le_trans Z0 ge23)).wr W122 (Nat.le_trans Z0 ge23)), V122, c123⟩
  obtain ⟨T124, h124, l124, N124, X124, e124, K124, z124, O124, V124_b21, c124⟩ : ∃ (T : State) (h : Heap) (locs : List Loc), Fr n0 locs ∧ Stand p l e room_1 s m #[(.int p0)] below meth c T locs 1 64 ∧ T.heap = h ∧ Keep h0 h [] ∧ n0 ≤ h.size ∧ Old Z n0 h ∧ Arv Z h b21 k21 .char (64 : Int32) [(.int (nar .char (65 : Int32))), (.int (nar .char (98 : Int32))), (.int (nar .char (90 : Int32))), (.int (nar .char (122 : Int32))), (.int (nar .char (48 : Int32))), (.int (nar .char (57 : Int32))), (.int (nar .char (45 : Int32))), (.int (nar .char (95 : Int32))), (.int (nar .char (65 : Int32))), (.int (nar .char (98 : Int32))), (.int (nar .char (90 : Int32))), (.int (nar .char (122 : Int32))), (.int (nar .char (48 : Int32))), (.int (nar .char (57 : Int32))), (.int (nar .char (45 : Int32))), (.int (nar .char (95 : Int32))), (.int (nar .char (65 : Int32))), (.int (nar .char (98 : Int32))), (.int (nar .char (90 : Int32))), (.int (nar .char (122 : Int32))), (.int (nar .char (48 : Int32))), (.int (nar .char (57 : Int32))), (.int (nar .char (45 : Int32))), (.int (nar .char (95 : Int32))), (.int (nar .char (65 : Int32))), (.int (nar .char (98 : Int32))), (.int (nar .char (90 : Int32))), (.int (nar .char (122 : Int32))), (.int (nar .char (48 : Int32))), (.int (nar .char (57 : Int32))), (.int (nar .char (45 : Int32))), (.int (nar .char (95 : Int32))), (.int (nar .char (65 : Int32))), (.int (nar .char (98 : Int32))), (.int (nar .char (90 : Int32))), (.int (nar .char (122 : Int32))), (.int (nar .char (48 : Int32))), (.int (nar .char (57 : Int32))), (.int (nar .char (45 : Int32))), (.int (nar .char (95 : Int32))), (.int 0), (.int 0), (.int 0), (.int 0), (.int 0), (.int 0), (.int 0), (.int 0), (.int 0), (.int 0), (.int 0), (.int 0), (.int 0), (.int 0), (.int 0), (.int 0), (.int 0), (.int 0), (.int 0), (.int 0), (.int 0), (.int 0), (.int 0), (.int 0)] (.int 0) ∧ SS p e below S0 (T.setTop (mkF m 270 #[vi p0, vi pk, vr uk, .unset, .unset, .unset, .unset, .unset] [(.ref b21)])) := by
    have c125 : SS p e below S0 (T99.setTop (mkF m 227 #[vi p0, vi pk, vr uk, .unset, .unset, .unset, .unset, .unset] [(.int 65), (.int 32), (.ref b21), (.ref b21)])) := c99.trans (by
      show SS p e below (T99.setTop (mkF m 222 #[vi p0, vi pk, vr uk, .unset, .unset, .unset, .unset, .unset] [(.ref b21)])) _
      refine XS.dup X99.here hx rfl (hb hby at_222) rfl rfl ?_
      refine XS.bipush X99.here hx rfl (hb hby at_223) ?_
      refine XS.bipush X99.here hx rfl (hb hby at_225) ?_
      exact Steps.refl _)
    obtain ⟨cl126, Ar126, q126, S126, Nn126, Ha126, G126⟩ := id V99_b21
    obtain ⟨T126, h126, X126, e126, W126, st126⟩ := stC X99 hx hZ e99 Ar126 (j := (32 : Int32)) (inb_of S126 ⟨by decide, by decide⟩) (g := (mkF m 227 #[vi p0, vi pk, vr uk, .unset, .unset, .unset, .unset, .unset] [(.int 65), (.int 32), (.ref b21), (.ref b21)])) rfl rfl (hb hby at_227)
    have V126 : Arv Z h126 b21 k21 .char (64 : Int32) [(.int (nar .char (65 : Int32))), (.int (nar .char (98 : Int32))), (.int (nar .char (90 : Int32))), (.int (nar .char (122 : Int32))), (.int (nar .char (48 : Int32))), (.int (nar .char (57 : Int32))), (.int (nar .char (45 : Int32))), (.int (nar .char (95 : Int32))), (.int (nar .char (65 : Int32))), (.int (nar .char (98 : Int32))), (.int (nar .char (90 : Int32))), (.int (nar .char (122 : Int32))), (.int (nar .char (48 : Int32))), (.int (nar .char (57 : Int32))), (.int (nar .char (45 : Int32))), (.int (nar .char (95 : Int32))), (.int (nar .char (65 : Int32))), (.int (nar .char (98 : Int32))), (.int (nar .char (90 : Int32))), (.int (nar .char (122 : Int32))), (.int (nar .char (48 : Int32))), (.int (nar .char (57 : Int32))), (.int (nar .char (45 : Int32))), (.int (nar .char (95 : Int32))), (.int (nar .char (65 : Int32))), (.int (nar .char (98 : Int32))), (.int (nar .char (90 : Int32))), (.int (nar .char (122 : Int32))), (.int (nar .char (48 : Int32))), (.int (nar .char (57 : Int32))), (.int (nar .char (45 : Int32))), (.int (nar .char (95 : Int32))), (.int (nar .char (65 : Int32))), (.int 0), (.int 0), (.int 0), (.int 0), (.int 0), (.int 0), (.int 0), (.int 0), (.int 0), (.int 0), (.int 0), (.int 0), (.int 0), (.int 0), (.int 0), (.int 0), (.int 0), (.int 0), (.int 0), (.int 0), (.int 0), (.int 0), (.int 0), (.int 0), (.int 0), (.int 0), (.int 0), (.int 0), (.int 0), (.int 0), (.int 0)] (.int 0) := Arv.set Ar126 q126 S126 Nn126 Ha126 G126 (fits_nar_char _) W126 32 rfl (Nat.le_of_ble_eq_true rfl)
    have c127 : SS p e below S0 (T126.setTop (mkF m 228 #[vi p0, vi pk, vr uk, .unset, .unset, .unset, .unset, .unset] [(.ref b21)])) := c125.trans (st126 _ (Steps.refl _))
    have N126 := Fr.snoc X126 N99 (Nat.le_trans Z0 ge23)
    have z126 : n0 ≤ h126.size := Nat.le_trans z99 (Keep.of_wr W126).1
    have K126 := K99.wr W126 (Or.inr ge23)
    have c128 : SS p e below S0 (T126.setTop (mkF m 233 #[vi p0, vi pk, vr uk, .unset, .unset, .unset, .unset, .unset] [(.int 98), (.int 33), (.ref b21), (.ref b21)])) := c127.trans (by
      show SS p e below (T126.setTop (mkF m 228 #[vi p0, vi pk, vr uk, .unset, .unset, .unset, .unset, .unset] [(.ref b21)])) _
      refine XS.dup X126.here hx rfl (hb hby at_228) rfl rfl ?_
      refine XS.bipush X126.here hx rfl (hb hby at_229) ?_
      refine XS.bipush X126.here hx rfl (hb hby at_231) ?_
      exact Steps.refl _)
    obtain ⟨cl129, Ar129, q129, S129, Nn129, Ha129, G129⟩ := id V126
    obtain ⟨T129, h129, X129, e129, W129, st129⟩ := stC X126 hx hZ e126 Ar129 (j := (33 : Int32)) (inb_of S129 ⟨by decide, by decide⟩) (g := (mkF m 233 #[vi p0, vi pk, vr uk, .unset, .unset, .unset, .unset, .unset] [(.int 98), (.int 33), (.ref b21), (.ref b21)])) rfl rfl (hb hby at_233)
    have V129 : Arv Z h129 b21 k21 .char (64 : Int32) [(.int (nar .char (65 : Int32))), (.int (nar .char (98 : Int32))), (.int (nar .char (90 : Int32))), (.int (nar .char (122 : Int32))), (.int (nar .char (48 : Int32))), (.int (nar .char (57 : Int32))), (.int (nar .char (45 : Int32))), (.int (nar .char (95 : Int32))), (.int (nar .char (65 : Int32))), (.int (nar .char (98 : Int32))), (.int (nar .char (90 : Int32))), (.int (nar .char (122 : Int32))), (.int (nar .char (48 : Int32))), (.int (nar .char (57 : Int32))), (.int (nar .char (45 : Int32))), (.int (nar .char (95 : Int32))), (.int (nar .char (65 : Int32))), (.int (nar .char (98 : Int32))), (.int (nar .char (90 : Int32))), (.int (nar .char (122 : Int32))), (.int (nar .char (48 : Int32))), (.int (nar .char (57 : Int32))), (.int (nar .char (45 : Int32))), (.int (nar .char (95 : Int32))), (.int (nar .char (65 : Int32))), (.int (nar .char (98 : Int32))), (.int (nar .char (90 : Int32))), (.int (nar .char (122 : Int32))), (.int (nar .char (48 : Int32))), (.int (nar .char (57 : Int32))), (.int (nar .char (45 : Int32))), (.int (nar .char (95 : Int32))), (.int (nar .char (65 : Int32))), (.int (nar .char (98 : Int32))), (.int 0), (.int 0), (.int 0), (.int 0), (.int 0), (.int 0), (.int 0), (.int 0), (.int 0), (.int 0), (.int 0), (.int 0), (.int 0), (.int 0), (.int 0), (.int 0), (.int 0), (.int 0), (.int 0), (.int 0), (.int 0), (.int 0), (.int 0), (.int 0), (.int 0), (.int 0), (.int 0), (.int 0), (.int 0), (.int 0)] (.int 0) := Arv.set Ar129 q129 S129 Nn129 Ha129 G129 (fits_nar_char _) W129 33 rfl (Nat.le_of_ble_eq_true rfl)
    have c130 : SS p e below S0 (T129.setTop (mkF m 234 #[vi p0, vi pk, vr uk, .unset, .unset, .unset, .unset, .unset] [(.ref b21)])) := c128.trans (st129 _ (Steps.refl _))
    have N129 := Fr.snoc X129 N126 (Nat.le_trans Z0 ge23)
    have z129 : n0 ≤ h129.size := Nat.le_trans z126 (Keep.of_wr W129).1
    have K129 := K126.wr W129 (Or.inr ge23)
    have c131 : SS p e below S0 (T129.setTop (mkF m 239 #[vi p0, vi pk, vr uk, .unset, .unset, .unset, .unset, .unset] [(.int 90), (.int 34), (.ref b21), (.ref b21)])) := c130.trans (by
      show SS p e below (T129.setTop (mkF m 234 #[vi p0, vi pk, vr uk, .unset, .unset, .unset, .unset, .unset] [(.ref b21)])) _
      refine XS.dup X129.here hx rfl (hb hby at_234) rfl rfl ?_
      refine XS.bipush X129.here hx rfl (hb hby at_235) ?_
      refine XS.bipush X129.here hx rfl (hb hby at_237) ?_
      exact Steps.refl _)
    obtain ⟨cl132, Ar132, q132, S132, Nn132, Ha132, G132⟩ := id V129
    obtain ⟨T132, h132, X132, e132, W132, st132⟩ := stC X129 hx hZ e129 Ar132 (j := (34 : Int32)) (inb_of S132 ⟨by decide, by decide⟩) (g := (mkF m 239 #[vi p0, vi pk, vr uk, .unset, .unset, .unset, .unset, .unset] [(.int 90), (.int 34), (.ref b21), (.ref b21)])) rfl rfl (hb hby at_239)
    have V132 : Arv Z h132 b21 k21 .char (64 : Int32) [(.int (nar .char (65 : Int32))), (.int (nar .char (98 : Int32))), (.int (nar .char (90 : Int32))), (.int (nar .char (122 : Int32))), (.int (nar .char (48 : Int32))), (.int (nar .char (57 : Int32))), (.int (nar .char (45 : Int32))), (.int (nar .char (95 : Int32))), (.int (nar .char (65 : Int32))), (.int (nar .char (98 : Int32))), (.int (nar .char (90 : Int32))), (.int (nar .char (122 : Int32))), (.int (nar .char (48 : Int32))), (.int (nar .char (57 : Int32))), (.int (nar .char (45 : Int32))), (.int (nar .char (95 : Int32))), (.int (nar .char (65 : Int32))), (.int (nar .char (98 : Int32))), (.int (nar .char (90 : Int32))), (.int (nar .char (122 : Int32))), (.int (nar .char (48 : Int32))), (.int (nar .char (57 : Int32))), (.int (nar .char (45 : Int32))), (.int (nar .char (95 : Int32))), (.int (nar .char (65 : Int32))), (.int (nar .char (98 : Int32))), (.int (nar .char (90 : Int32))), (.int (nar .char (122 : Int32))), (.int (nar .char (48 : Int32))), (.int (nar .char (57 : Int32))), (.int (nar .char (45 : Int32))), (.int (nar .char (95 : Int32))), (.int (nar .char (65 : Int32))), (.int (nar .char (98 : Int32))), (.int (nar .char (90 : Int32))), (.int 0), (.int 0), (.int 0), (.int 0), (.int 0), (.int 0), (.int 0), (.int 0), (.int 0), (.int 0), (.int 0), (.int 0), (.int 0), (.int 0), (.int 0), (.int 0), (.int 0), (.int 0), (.int 0), (.int 0), (.int 0), (.int 0), (.int 0), (.int 0), (.int 0), (.int 0), (.int 0), (.int 0), (.int 0)] (.int 0) := Arv.set Ar132 q132 S132 Nn132 Ha132 G132 (fits_nar_char _) W132 34 rfl (Nat.le_of_ble_eq_true rfl)
    have c133 : SS p e below S0 (T132.setTop (mkF m 240 #[vi p0, vi pk, vr uk, .unset, .unset, .unset, .unset, .unset] [(.ref b21)])) := c131.trans (st132 _ (Steps.refl _))
    have N132 := Fr.snoc X132 N129 (Nat.le_trans Z0 ge23)
    have z132 : n0 ≤ h132.size := Nat.le_trans z129 (Keep.of_wr W132).1
    have K132 := K129.wr W132 (Or.inr ge23)
    have c134 : SS p e below S0 (T132.setTop (mkF m 245 #[vi p0, vi pk, vr uk, .unset, .unset, .unset, .unset, .unset] [(.int 122), (.int 35), (.ref b21), (.ref b21)])) := c133.trans (by
      show SS p e below (T132.setTop (mkF m 240 #[vi p0, vi pk, vr uk, .unset, .unset, .unset, .unset, .unset] [(.ref b21)])) _
      refine XS.dup X132.here hx rfl (hb hby at_240) rfl rfl ?_
      refine XS.bipush X132.here hx rfl (hb hby at_241) ?_
      refine XS.bipush X132.here hx rfl (hb hby at_243) ?_
      exact Steps.refl _)
    obtain ⟨cl135, Ar135, q135, S135, Nn135, Ha135, G135⟩ := id V132
    obtain ⟨T135, h135, X135, e135, W135, st135⟩ := stC X132 hx hZ e132 Ar135 (j := (35 : Int32)) (inb_of S135 ⟨by decide, by decide⟩) (g := (mkF m 245 #[vi p0, vi pk, vr uk, .unset, .unset, .unset, .unset, .unset] [(.int 122), (.int 35), (.ref b21), (.ref b21)])) rfl rfl (hb hby at_245)
    have V135 : Arv Z h135 b21 k21 .char (64 : Int32) [(.int (nar .char (65 : Int32))), (.int (nar .char (98 : Int32))), (.int (nar .char (90 : Int32))), (.int (nar .char (122 : Int32))), (.int (nar .char (48 : Int32))), (.int (nar .char (57 : Int32))), (.int (nar .char (45 : Int32))), (.int (nar .char (95 : Int32))), (.int (nar .char (65 : Int32))), (.int (nar .char (98 : Int32))), (.int (nar .char (90 : Int32))), (.int (nar .char (122 : Int32))), (.int (nar .char (48 : Int32))), (.int (nar .char (57 : Int32))), (.int (nar .char (45 : Int32))), (.int (nar .char (95 : Int32))), (.int (nar .char (65 : Int32))), (.int (nar .char (98 : Int32))), (.int (nar .char (90 : Int32))), (.int (nar .char (122 : Int32))), (.int (nar .char (48 : Int32))), (.int (nar .char (57 : Int32))), (.int (nar .char (45 : Int32))), (.int (nar .char (95 : Int32))), (.int (nar .char (65 : Int32))), (.int (nar .char (98 : Int32))), (.int (nar .char (90 : Int32))), (.int (nar .char (122 : Int32))), (.int (nar .char (48 : Int32))), (.int (nar .char (57 : Int32))), (.int (nar .char (45 : Int32))), (.int (nar .char (95 : Int32))), (.int (nar .char (65 : Int32))), (.int (nar .char (98 : Int32))), (.int (nar .char (90 : Int32))), (.int (nar .char (122 : Int32))), (.int 0), (.int 0), (.int 0), (.int 0), (.int 0), (.int 0), (.int 0), (.int 0), (.int 0), (.int 0), (.int 0), (.int 0), (.int 0), (.int 0), (.int 0), (.int 0), (.int 0), (.int 0), (.int 0), (.int 0), (.int 0), (.int 0), (.int 0), (.int 0), (.int 0), (.int 0), (.int 0), (.int 0)] (.int 0) := Arv.set Ar135 q135 S135 Nn135 Ha135 G135 (fits_nar_char _) W135 35 rfl (Nat.le_of_ble_eq_true rfl)
    have c136 : SS p e below S0 (T135.setTop (mkF m 246 #[vi p0, vi pk, vr uk, .unset, .unset, .unset, .unset, .unset] [(.ref b21)])) := c134.trans (st135 _ (Steps.refl _))
    have N135 := Fr.snoc X135 N132 (Nat.le_trans Z0 ge23)
    have z135 : n0 ≤ h135.size := Nat.le_trans z132 (Keep.of_wr W135).1
    have K135 := K132.wr W135 (Or.inr ge23)
    have c137 : SS p e below S0 (T135.setTop (mkF m 251 #[vi p0, vi pk, vr uk, .unset, .unset, .unset, .unset, .unset] [(.int 48), (.int 36), (.ref b21), (.ref b21)])) := c136.trans (by
      show SS p e below (T135.setTop (mkF m 246 #[vi p0, vi pk, vr uk, .unset, .unset, .unset, .unset, .unset] [(.ref b21)])) _
      refine XS.dup X135.here hx rfl (hb hby at_246) rfl rfl ?_
      refine XS.bipush X135.here hx rfl (hb hby at_247) ?_
      refine XS.bipush X135.here hx rfl (hb hby at_249) ?_
      exact Steps.refl _)
    obtain ⟨cl138, Ar138, q138, S138, Nn138, Ha138, G138⟩ := id V135
    obtain ⟨T138, h138, X138, e138, W138, st138⟩ := stC X135 hx hZ e135 Ar138 (j := (36 : Int32)) (inb_of S138 ⟨by decide, by decide⟩) (g := (mkF m 251 #[vi p0, vi pk, vr uk, .unset, .unset, .unset, .unset, .unset] [(.int 48), (.int 36), (.ref b21), (.ref b21)])) rfl rfl (hb hby at_251)
    have V138 : Arv Z h138 b21 k21 .char (64 : Int32) [(.int (nar .char (65 : Int32))), (.int (nar .char (98 : Int32))), (.int (nar .char (90 : Int32))), (.int (nar .char (122 : Int32))), (.int (nar .char (48 : Int32))), (.int (nar .char (57 : Int32))), (.int (nar .char (45 : Int32))), (.int (nar .char (95 : Int32))), (.int (nar .char (65 : Int32))), (.int (nar .char (98 : Int32))), (.int (nar .char (90 : Int32))), (.int (nar .char (122 : Int32))), (.int (nar .char (48 : Int32))), (.int (nar .char (57 : Int32))), (.int (nar .char (45 : Int32))), (.int (nar .char (95 : Int32))), (.int (nar .char (65 : Int32))), (.int (nar .char (98 : Int32))), (.int (nar .char (90 : Int32))), (.int (nar .char (122 : Int32))), (.int (nar .char (48 : Int32))), (.int (nar .char (57 : Int32))), (.int (nar .char (45 : Int32))), (.int (nar .char (95 : Int32))), (.int (nar .char (65 : Int32))), (.int (nar .char (98 : Int32))), (.int (nar .char (90 : Int32))), (.int (nar .char (122 : Int32))), (.int (nar .char (48 : Int32))), (.int (nar .char (57 : Int32))), (.int (nar .char (45 : Int32))), (.int (nar .char (95 : Int32))), (.int (nar .char (65 : Int32))), (.int (nar .char (98 : Int32))), (.int (nar .char (90 : Int32))), (.int (nar .char (122 : Int32))), (.int (nar .char (48 : Int32))), (.int 0), (.int 0), (.int 0), (.int 0), (.int 0), (.int 0), (.int 0), (.int 0), (.int 0), (.int 0), (.int 0), (.int 0), (.int 0), (.int 0), (.int 0), (.int 0), (.int 0), (.int 0), (.int 0), (.int 0), (.int 0), (.int 0), (.int 0), (.int 0), (.int 0), (.int 0), (.int 0)] (.int 0) := Arv.set Ar138 q138 S138 Nn138 Ha138 G138 (fits_nar_char _) W138 36 rfl (Nat.le_of_ble_eq_true rfl)
    have c139 : SS p e below S0 (T138.setTop (mkF m 252 #[vi p0, vi pk, vr uk, .unset, .unset, .unset, .unset, .unset] [(.ref b21)])) := c137.trans (st138 _ (Steps.refl _))
    have N138 := Fr.snoc X138 N135 (Nat.le_trans Z0 ge23)
    have z138 : n0 ≤ h138.size := Nat.le_trans z135 (Keep.of_wr W138).1
    have K138 := K135.wr W138 (Or.inr ge23)
    have c140 : SS p e below S0 (T138.setTop (mkF m 257 #[vi p0, vi pk, vr uk, .unset, .unset, .unset, .unset, .unset] [(.int 57), (.int 37), (.ref b21), (.ref b21)])) := c139.trans (by
      show SS p e below (T138.setTop (mkF m 252 #[vi p0, vi pk, vr uk, .unset, .unset, .unset, .unset, .unset] [(.ref b21)])) _
      refine XS.dup X138.here hx rfl (hb hby at_252) rfl rfl ?_
      refine XS.bipush X138.here hx rfl (hb hby at_253) ?_
      refine XS.bipush X138.here hx rfl (hb hby at_255) ?_
      exact Steps.refl _)
    obtain ⟨cl141, Ar141, q141, S141, Nn141, Ha141, G141⟩ := id V138
    obtain ⟨T141, h141, X141, e141, W141, st141⟩ := stC X138 hx hZ e138 Ar141 (j := (37 : Int32)) (inb_of S141 ⟨by decide, by decide⟩) (g := (mkF m 257 #[vi p0, vi pk, vr uk, .unset, .unset, .unset, .unset, .unset] [(.int 57), (.int 37), (.ref b21), (.ref b21)])) rfl rfl (hb hby at_257)
    have V141 : Arv Z h141 b21 k21 .char (64 : Int32) [(.int (nar .char (65 : Int32))), (.int (nar .char (98 : Int32))), (.int (nar .char (90 : Int32))), (.int (nar .char (122 : Int32))), (.int (nar .char (48 : Int32))), (.int (nar .char (57 : Int32))), (.int (nar .char (45 : Int32))), (.int (nar .char (95 : Int32))), (.int (nar .char (65 : Int32))), (.int (nar .char (98 : Int32))), (.int (nar .char (90 : Int32))), (.int (nar .char (122 : Int32))), (.int (nar .char (48 : Int32))), (.int (nar .char (57 : Int32))), (.int (nar .char (45 : Int32))), (.int (nar .char (95 : Int32))), (.int (nar .char (65 : Int32))), (.int (nar .char (98 : Int32))), (.int (nar .char (90 : Int32))), (.int (nar .char (122 : Int32))), (.int (nar .char (48 : Int32))), (.int (nar .char (57 : Int32))), (.int (nar .char (45 : Int32))), (.int (nar .char (95 : Int32))), (.int (nar .char (65 : Int32))), (.int (nar .char (98 : Int32))), (.int (nar .char (90 : Int32))), (.int (nar .char (122 : Int32))), (.int (nar .char (48 : Int32))), (.int (nar .char (57 : Int32))), (.int (nar .char (45 : Int32))), (.int (nar .char (95 : Int32))), (.int (nar .char (65 : Int32))), (.int (nar .char (98 : Int32))), (.int (nar .char (90 : Int32))), (.int (nar .char (122 : Int32))), (.int (nar .char (48 : Int32))), (.int (nar .char (57 : Int32))), (.int 0), (.int 0), (.int 0), (.int 0), (.int 0), (.int 0), (.int 0), (.int 0), (.int 0), (.int 0), (.int 0), (.int 0), (.int 0), (.int 0), (.int 0), (.int 0), (.int 0), (.int 0), (.int 0), (.int 0), (.int 0), (.int 0), (.int 0), (.int 0), (.int 0), (.int 0)] (.int 0) := Arv.set Ar141 q141 S141 Nn141 Ha141 G141 (fits_nar_char _) W141 37 rfl (Nat.le_of_ble_eq_true rfl)
    have c142 : SS p e below S0 (T141.setTop (mkF m 258 #[vi p0, vi pk, vr uk, .unset, .unset, .unset, .unset, .unset] [(.ref b21)])) := c140.trans (st141 _ (Steps.refl _))
    have N141 := Fr.snoc X141 N138 (Nat.le_trans Z0 ge23)
    have z141 : n0 ≤ h141.size := Nat.le_trans z138 (Keep.of_wr W141).1
    have K141 := K138.wr W141 (Or.inr ge23)
    have c143 : SS p e below S0 (T141.setTop (mkF m 263 #[vi p0, vi pk, vr uk, .unset, .unset, .unset, .unset, .unset] [(.int 45), (.int 38), (.ref b21), (.ref b21)])) := c142.trans (by
      show SS p e below (T141.setTop (mkF m 258 #[vi p0, vi pk, vr uk, .unset, .unset, .unset, .unset, .unset] [(.ref b21)])) _
      refine XS.dup X141.here hx rfl (hb hby at_258) rfl rfl ?_
      refine XS.bipush X141.here hx rfl (hb hby at_259) ?_
      refine XS.bipush X141.here hx rfl (hb hby at_261) ?_
      exact Steps.refl _)
    obtain ⟨cl144, Ar144, q144, S144, Nn144, Ha144, G144⟩ := id V141
    obtain ⟨T144, h144, X144, e144, W144, st144⟩ := stC X141 hx hZ e141 Ar144 (j := (38 : Int32)) (inb_of S144 ⟨by decide, by decide⟩) (g := (mkF m 263 #[vi p0, vi pk, vr uk, .unset, .unset, .unset, .unset, .unset] [(.int 45), (.int 38), (.ref b21), (.ref b21)])) rfl rfl (hb hby at_263)
    have V144 : Arv Z h144 b21 k21 .char (64 : Int32) [(.int (nar .char (65 : Int32))), (.int (nar .char (98 : Int32))), (.int (nar .char (90 : Int32))), (.int (nar .char (122 : Int32))), (.int (nar .char (48 : Int32))), (.int (nar .char (57 : Int32))), (.int (nar .char (45 : Int32))), (.int (nar .char (95 : Int32))), (.int (nar .char (65 : Int32))), (.int (nar .char (98 : Int32))), (.int (nar .char (90 : Int32))), (.int (nar .char (122 : Int32))), (.int (nar .char (48 : Int32))), (.int (nar .char (57 : Int32))), (.int (nar .char (45 : Int32))), (.int (nar .char (95 : Int32))), (.int (nar .char (65 : Int32))), (.int (nar .char (98 : Int32))), (.int (nar .char (90 : Int32))), (.int (nar .char (122 : Int32))), (.int (nar .char (48 : Int32))), (.int (nar .char (57 : Int32))), (.int (nar .char (45 : Int32))), (.int (nar .char (95 : Int32))), (.int (nar .char (65 : Int32))), (.int (nar .char (98 : Int32))), (.int (nar .char (90 : Int32))), (.int (nar .char (122 : Int32))), (.int (nar .char (48 : Int32))), (.int (nar .char (57 : Int32))), (.int (nar .char (45 : Int32))), (.int (nar .char (95 : Int32))), (.int (nar .char (65 : Int32))), (.int (nar .char (98 : Int32))), (.int (nar .char (90 : Int32))), (.int (nar .char (122 : Int32))), (.int (nar .char (48 : Int32))), (.int (nar .char (57 : Int32))), (.int (nar .char (45 : Int32))), (.int 0), (.int 0), (.int 0), (.int 0), (.int 0), (.int 0), (.int 0), (.int 0), (.int 0), (.int 0), (.int 0), (.int 0), (.int 0), (.int 0), (.int 0), (.int 0), (.int 0), (.int 0), (.int 0), (.int 0), (.int 0), (.int 0), (.int 0), (.int 0), (.int 0)] (.int 0) := Arv.set Ar144 q144 S144 Nn144 Ha144 G144 (fits_nar_char _) W144 38 rfl (Nat.le_of_ble_eq_true rfl)
    have c145 : SS p e below S0 (T144.setTop (mkF m 264 #[vi p0, vi pk, vr uk, .unset, .unset, .unset, .unset, .unset] [(.ref b21)])) := c143.trans (st144 _ (Steps.refl _))
    have N144 := Fr.snoc X144 N141 (Nat.le_trans Z0 ge23)
    have z144 : n0 ≤ h144.size := Nat.le_trans z141 (Keep.of_wr W144).1
    have K144 := K141.wr W144 (Or.inr ge23)
    have c146 : SS p e below S0 (T144.setTop (mkF m 269 #[vi p0, vi pk, vr uk, .unset, .unset, .unset, .unset, .unset] [(.int 95), (.int 39), (.ref b21), (.ref b21)])) := c145.trans (by
      show SS p e below (T144.setTop (mkF m 264 #[vi p0, vi pk, vr uk, .unset, .unset, .unset, .unset, .unset] [(.ref b21)])) _
      refine XS.dup X144.here hx rfl (hb hby at_264) rfl rfl ?_
      refine XS.bipush X144.here hx rfl (hb hby at_265) ?_
      refine XS.bipush X144.here hx rfl (hb hby at_267) ?_
      exact Steps.refl _)
    obtain ⟨cl147, Ar147, q147, S147, Nn147, Ha147, G147⟩ := id V144
    obtain ⟨T147, h147, X147, e147, W147, st147⟩ := stC X144 hx hZ e144 Ar147 (j := (39 : Int32)) (inb_of S147 ⟨by decide, by decide⟩) (g := (mkF m 269 #[vi p0, vi pk, vr uk, .unset, .unset, .unset, .unset, .unset] [(.int 95), (.int 39), (.ref b21), (.ref b21)])) rfl rfl (hb hby at_269)
    have V147 : Arv Z h147 b21 k21 .char (64 : Int32) [(.int (nar .char (65 : Int32))), (.int (nar .char (98 : Int32))), (.int (nar .char (90 : Int32))), (.int (nar .char (122 : Int32))), (.int (nar .char (48 : Int32))), (.int (nar .char (57 : Int32))), (.int (nar .char (45 : Int32))), (.int (nar .char (95 : Int32))), (.int (nar .char (65 : Int32))), (.int (nar .char (98 : Int32))), (.int (nar .char (90 : Int32))), (.int (nar .char (122 : Int32))), (.int (nar .char (48 : Int32))), (.int (nar .char (57 : Int32))), (.int (nar .char (45 : Int32))), (.int (nar .char (95 : Int32))), (.int (nar .char (65 : Int32))), (.int (nar .char (98 : Int32))), (.int (nar .char (90 : Int32))), (.int (nar .char (122 : Int32))), (.int (nar .char (48 : Int32))), (.int (nar .char (57 : Int32))), (.int (nar .char (45 : Int32))), (.int (nar .char (95 : Int32))), (.int (nar .char (65 : Int32))), (.int (nar .char (98 : Int32))), (.int (nar .char (90 : Int32))), (.int (nar .char (122 : Int32))), (.int (nar .char (48 : Int32))), (.int (nar .char (57 : Int32))), (.int (nar .char (45 : Int32))), (.int (nar .char (95 : Int32))), (.int (nar .char (65 : Int32))), (.int (nar .char (98 : Int32))), (.int (nar .char (90 : Int32))), (.int (nar .char (122 : Int32))), (.int (nar .char (48 : Int32))), (.int (nar .char (57 : Int32))), (.int (nar .char (45 : Int32))), (.int (nar .char (95 : Int32))), (.int 0), (.int 0), (.int 0), (.int 0), (.int 0), (.int 0), (.int 0), (.int 0), (.int 0), (.int 0), (.int 0), (.int 0), (.int 0), (.int 0), (.int 0), (.int 0), (.int 0), (.int 0), (.int 0), (.int 0), (.int 0), (.int 0), (.int 0), (.int 0)] (.int 0) := Arv.set Ar147 q147 S147 Nn147 Ha147 G147 (fits_nar_char _) W147 39 rfl (Nat.le_of_ble_eq_true rfl)
    have c148 : SS p e below S0 (T147.setTop (mkF m 270 #[vi p0, vi pk, vr uk, .unset, .unset, .unset, .unset, .unset] [(.ref b21)])) := c146.trans (st147 _ (Steps.refl _))
    have N147 := Fr.snoc X147 N144 (Nat.le_trans Z0 ge23)
    have z147 : n0 ≤ h147.size := Nat.le_trans z144 (Keep.of_wr W147).1
    have K147 := K144.wr W147 (Or.inr ge23)
    exact ⟨T147, _, _, N147, X147, e147, K147, z147, ((((((((O99.wr W126 (Nat.le_trans Z0 ge23)).wr W129 (Nat.le_trans Z0 ge23)).wr W132 (Nat.le_trans Z0 ge23)).wr W135 (Nat.le_trans Z0 ge23)).wr W138 (Nat.le_trans Z0 ge23)).wr W141 (Nat.le_trans Z0 ge23)).wr W144 (Nat.le_trans Z0 ge23)).wr W147 (Nat.le_trans Z0 ge23)), V147, c148⟩
  obtain ⟨T149, h149, l149, N149, X149, e149, K149, z149, O149, V149_b21, c149⟩ : ∃ (T : State) (h : Heap) (locs : List Loc), Fr n0 locs ∧ Stand p l e room_1 s m #[(.int p0)] below meth c T locs 1 64 ∧ T.heap = h ∧ Keep h0 h [] ∧ n0 ≤ h.size ∧ Old Z n0 h ∧ Arv Z h b21 k21 .char (64 : Int32) [(.int (nar .char (65 : Int32))), (.int (nar .char (98 : Int32))), (.int (nar .char (90 : Int32))), (.int (nar .char (122 : Int32))), (.int (nar .char (48 : Int32))), (.int (nar .char (57 : Int32))), (.int (nar .char (45 : Int32))), (.int (nar .char (95 : Int32))), (.int (nar .char (65 : Int32))), (.int (nar .char (98 : Int32))), (.int (nar .char (90 : Int32))), (.int (nar .char (122 : Int32))), (.int (nar .char (48 : Int32))), (.int (nar .char (57 : Int32))), (.int (nar .char (45 : Int32))), (.int (nar .char (95 : Int32))), (.int (nar .char (65 : Int32))), (.int (nar .char (98 : Int32))), (.int (nar .char (90 : Int32))), (.int (nar .char (122 : Int32))), (.int (nar .char (48 : Int32))), (.int (nar .char (57 : Int32))), (.int (nar .char (45 : Int32))), (.int (nar .char (95 : Int32))), (.int (nar .char (65 : Int32))), (.int (nar .char (98 : Int32))), (.int (nar .char (90 : Int32))), (.int (nar .char (122 : Int32))), (.int (nar .char (48 : Int32))), (.int (nar .char (57 : Int32))), (.int (nar .char (45 : Int32))), (.int (nar .char (95 : Int32))), (.int (nar .char (65 : Int32))), (.int (nar .char (98 : Int32))), (.int (nar .char (90 : Int32))), (.int (nar .char (122 : Int32))), (.int (nar .char (48 : Int32))), (.int (nar .char (57 : Int32))), (.int (nar .char (45 : Int32))), (.int (nar .char (95 : Int32))), (.int (nar .char (65 : Int32))), (.int (nar .char (98 : Int32))), (.int (nar .char (90 : Int32))), (.int (nar .char (122 : Int32))), (.int (nar .char (48 : Int32))), (.int (nar .char (57 : Int32))), (.int (nar .char (45 : Int32))), (.int (nar .char (95 : Int32))), (.int 0), (.int 0), (.int 0), (.int 0), (.int 0), (.int 0), (.int 0), (.int 0), (.int 0), (.int 0), (.int 0), (.int 0), (.int 0), (.int 0), (.int 0), (.int 0)] (.int 0) ∧ SS p e below S0 (T.setTop (mkF m 318 #[vi p0, vi pk, vr uk, .unset, .unset, .unset, .unset, .unset] [(.ref b21)])) := by
    have c150 : SS p e below S0 (T124.setTop (mkF m 275 #[vi p0, vi pk, vr uk, .unset, .unset, .unset, .unset, .unset] [(.int 65), (.int 40), (.ref b21), (.ref b21)])) := c124.trans (by
      show SS p e below (T124.setTop (mkF m 270 #[vi p0, vi pk, vr uk, .unset, .unset, .unset, .unset, .unset] [(.ref b21)])) _
      refine XS.dup X124.here hx rfl (hb hby at_270) rfl rfl ?_
      refine XS.bipush X124.here hx rfl (hb hby at_271) ?_
      refine XS.bipush X124.here hx rfl (hb hby at_273) ?_
      exact Steps.refl _)
    obtain ⟨cl151, Ar151, q151, S151, Nn151, Ha151, G151⟩ := id V124_b21
    obtain ⟨T151, h151, X151, e151, W151, st151⟩ := stC X124 hx hZ e124 Ar151 (j := (40 : Int32)) (inb_of S151 ⟨by decide, by decide⟩) (g := (mkF m 275 #[vi p0, vi pk, vr uk, .unset, .unset, .unset, .unset, .unset] [(.int 65), (.int 40), (.ref b21), (.ref b21)])) rfl rfl (hb hby at_275)
    have V151 : Arv Z h151 b21 k21 .char (64 : Int32) [(.int (nar .char (65 : Int32))), (.int (nar .char (98 : Int32))), (.int (nar .char (90 : Int32))), (.int (nar .char (122 : Int32))), (.int (nar .char (48 : Int32))), (.int (nar .char (57 : Int32))), (.int (nar .char (45 : Int32))), (.int (nar .char (95 : Int32))), (.int (nar .char (65 : Int32))), (.int (nar .char (98 : Int32))), (.int (nar .char (90 : Int32))), (.int (nar .char (122 : Int32))), (.int (nar .char (48 : Int32))), (.int (nar .char (57 : Int32))), (.int (nar .char (45 : Int32))), (.int (nar .char (95 : Int32))), (.int (nar .char (65 : Int32))), (.int (nar .char (98 : Int32))), (.int (nar .char (90 : Int32))), (.int (nar .char (122 : Int32))), (.int (nar .char (48 : Int32))), (.int (nar .char (57 : Int32))), (.int (nar .char (45 : Int32))), (.int (nar .char (95 : Int32))), (.int (nar .char (65 : Int32))), (.int (nar .char (98 : Int32))), (.int (nar .char (90 : Int32))), (.int (nar .char (122 : Int32))), (.int (nar .char (48 : Int32))), (.int (nar .char (57 : Int32))), (.int (nar .char (45 : Int32))), (.int (nar .char (95 : Int32))), (.int (nar .char (65 : Int32))), (.int (nar .char (98 : Int32))), (.int (nar .char (90 : Int32))), (.int (nar .char (122 : Int32))), (.int (nar .char (48 : Int32))), (.int (nar .char (57 : Int32))), (.int (nar .char (45 : Int32))), (.int (nar .char (95 : Int32))), (.int (nar .char (65 : Int32))), (.int 0), (.int 0), (.int 0), (.int 0), (.int 0), (.int 0), (.int 0), (.int 0), (.int 0), (.int 0), (.int 0), (.int 0), (.int 0), (.int 0), (.int 0), (.int 0), (.int 0), (.int 0), (.int 0), (.int 0), (.int 0), (.int 0), (.int 0)] (.int 0) := Arv.set Ar151 q151 S151 Nn151 Ha151 G151 (fits_nar_char _) W151 40 rfl (Nat.le_of_ble_eq_true rfl)
    have c152 : SS p e below S0 (T151.setTop (mkF m 276 #[vi p0, vi pk, vr uk, .unset, .unset, .unset, .unset, .unset] [(.ref b21)])) := c150.trans (st151 _ (Steps.refl _))
    have N151 := Fr.snoc X151 N124 (Nat.le_trans Z0 ge23)
    have z151 : n0 ≤ h151.size := Nat.le_trans z124 (Keep.of_wr W151).1
    have K151 := K124.wr W151 (Or.inr ge23)
    have c153 : SS p e below S0 (T151.setTop (mkF m 281 #[vi p0, vi pk, vr uk, .unset, .unset, .unset, .unset, .unset] [(.int 98), (.int 41), (.ref b21), (.ref b21)])) := c152.trans (by
      show SS p e below (T151.setTop (mkF m 276 #[vi p0, vi pk, vr uk, .unset, .unset, .unset, .unset, .unset] [(.ref b21)])) _
      refine XS.dup X151.here hx rfl (hb hby at_276) rfl rfl ?_
      refine XS.bipush X151.here hx rfl (hb hby at_277) ?_
      refine XS.bipush X151.here hx rfl (hb hby at_279) ?_
      exact Steps.refl _)
    obtain ⟨cl154, Ar154, q154, S154, Nn154, Ha154, G154⟩ := id V151
    obtain ⟨T154, h154, X154, e154, W154, st154⟩ := stC X151 hx hZ e151 Ar154 (j := (41 : Int32)) (inb_of S154 ⟨by decide, by decide⟩) (g := (mkF m 281 #[vi p0, vi pk, vr uk, .unset, .unset, .unset, .unset, .unset] [(.int 98), (.int 41), (.ref b21), (.ref b21)])) rfl rfl (hb hby at_281)
    have V154 : Arv Z h154 b21 k21 .char (64 : Int32) [(.int (nar .char (65 : Int32))), (.int (nar .char (98 : Int32))), (.int (nar .char (90 : Int32))), (.int (nar .char (122 : Int32))), (.int (nar .char (48 : Int32))), (.int (nar .char (57 : Int32))), (.int (nar .char (45 : Int32))), (.int (nar .char (95 : Int32))), (.int (nar .char (65 : Int32))), (.int (nar .char (98 : Int32))), (.int (nar .char (90 : Int32))), (.int (nar .char (122 : Int32))), (.int (nar .char (48 : Int32))), (.int (nar .char (57 : Int32))), (.int (nar .char (45 : Int32))), (.int (nar .char (95 : Int32))), (.int (nar .char (65 : Int32))), (.int (nar .char (98 : Int32))), (.int (nar .char (90 : Int32))), (.int (nar .char (122 : Int32))), (.int (nar .char (48 : Int32))), (.int (nar .char (57 : Int32))), (.int (nar .char (45 : Int32))), (.int (nar .char (95 : Int32))), (.int (nar .char (65 : Int32))), (.int (nar .char (98 : Int32))), (.int (nar .char (90 : Int32))), (.int (nar .char (122 : Int32))), (.int (nar .char (48 : Int32))), (.int (nar .char (57 : Int32))), (.int (nar .char (45 : Int32))), (.int (nar .char (95 : Int32))), (.int (nar .char (65 : Int32))), (.int (nar .char (98 : Int32))), (.int (nar .char (90 : Int32))), (.int (nar .char (122 : Int32))), (.int (nar .char (48 : Int32))), (.int (nar .char (57 : Int32))), (.int (nar .char (45 : Int32))), (.int (nar .char (95 : Int32))), (.int (nar .char (65 : Int32))), (.int (nar .char (98 : Int32))), (.int 0), (.int 0), (.int 0), (.int 0), (.int 0), (.int 0), (.int 0), (.int 0), (.int 0), (.int 0), (.int 0), (.int 0), (.int 0), (.int 0), (.int 0), (.int 0), (.int 0), (.int 0), (.int 0), (.int 0), (.int 0), (.int 0)] (.int 0) := Arv.set Ar154 q154 S154 Nn154 Ha154 G154 (fits_nar_char _) W154 41 rfl (Nat.le_of_ble_eq_true rfl)
    have c155 : SS p e below S0 (T154.setTop (mkF m 282 #[vi p0, vi pk, vr uk, .unset, .unset, .unset, .unset, .unset] [(.ref b21)])) := c153.trans (st154 _ (Steps.refl _))
    have N154 := Fr.snoc X154 N151 (Nat.le_trans Z0 ge23)
    have z154 : n0 ≤ h154.size := Nat.le_trans z151 (Keep.of_wr W154).1
    have K154 := K151.wr W154 (Or.inr ge23)
    have c156 : SS p e below S0 (T154.setTop (mkF m 287 #[vi p0, vi pk, vr uk, .unset, .unset, .unset, .unset, .unset] [(.int 90), (.int 42), (.ref b21), (.ref b21)])) := c155.trans (by
      show SS p e below (T154.setTop (mkF m 282 #[vi p0, vi pk, vr uk, .unset, .unset, .unset, .unset, .unset] [(.ref b21)])) _
      refine XS.dup X154.here hx rfl (hb hby at_282) rfl rfl ?_
      refine XS.bipush X154.here hx rfl (hb hby at_283) ?_
      refine XS.bipush X154.here hx rfl (hb hby at_285) ?_
      exact Steps.refl _)
    obtain ⟨cl157, Ar157, q157, S157, Nn157, Ha157, G157⟩ := id V154
    obtain ⟨T157, h157, X157, e157, W157, st157⟩ := stC X154 hx hZ e154 Ar157 (j := (42 : Int32)) (inb_of S157 ⟨by decide, by decide⟩) (g := (mkF m 287 #[vi p0, vi pk, vr uk, .unset, .unset, .unset, .unset, .unset] [(.int 90), (.int 42), (.ref b21), (.ref b21)])) rfl rfl (hb hby at_287)
    have V157 : Arv Z h157 b21 k21 .char (64 : Int32) [(.int (nar .char (65 : Int32))), (.int (nar .char (98 : Int32))), (.int (nar .char (90 : Int32))), (.int (nar .char (122 : Int32))), (.int (nar .char (48 : Int32))), (.int (nar .char (57 : Int32))), (.int (nar .char (45 : Int32))), (.int (nar .char (95 : Int32))), (.int (nar .char (65 : Int32))), (.int (nar .char (98 : Int32))), (.int (nar .char (90 : Int32))), (.int (nar .char (122 : Int32))), (.int (nar .char (48 : Int32))), (.int (nar .char (57 : Int32))), (.int (nar .char (45 : Int32))), (.int (nar .char (95 : Int32))), (.int (nar .char (65 : Int32))), (.int (nar .char (98 : Int32))), (.int (nar .char (90 : Int32))), (.int (nar .char (122 : Int32))), (.int (nar .char (48 : Int32))), (.int (nar .char (57 : Int32))), (.int (nar .char (45 : Int32))), (.int (nar .char (95 : Int32))), (.int (nar .char (65 : Int32))), (.int (nar .char (98 : Int32))), (.int (nar .char (90 : Int32))), (.int (nar .char (122 : Int32))), (.int (nar .char (48 : Int32))), (.int (nar .char (57 : Int32))), (.int (nar .char (45 : Int32))), (.int (nar .char (95 : Int32))), (.int (nar .char (65 : Int32))), (.int (nar .char (98 : Int32))), (.int (nar .char (90 : Int32))), (.int (nar .char (122 : Int32))), (.int (nar .char (48 : Int32))), (.int (nar .char (57 : Int32))), (.int (nar .char (45 : Int32))), (.int (nar .char (95 : Int32))), (.int (nar .char (65 : Int32))), (.int (nar .char (98 : Int32))), (.int (nar .char (90 : Int32))), (.int 0), (.int 0), (.int 0), (.int 0), (.int 0), (.int 0), (.int 0), (.int 0), (.int 0), (.int 0), (.int 0), (.int 0), (.int 0), (.int 0), (.int 0), (.int 0), (.int 0), (.int 0), (.int 0), (.int 0), (.int 0)] (.int 0) := Arv.set Ar157 q157 S157 Nn157 Ha157 G157 (fits_nar_char _) W157 42 rfl (Nat.le_of_ble_eq_true rfl)
    have c158 : SS p e below S0 (T157.setTop (mkF m 288 #[vi p0, vi pk, vr uk, .unset, .unset, .unset, .unset, .unset] [(.ref b21)])) := c156.trans (st157 _ (Steps.refl _))
    have N157 := Fr.snoc X157 N154 (Nat.le_trans Z0 ge23)
    have z157 : n0 ≤ h157.size := Nat.le_trans z154 (Keep.of_wr W157).1
    have K157 := K154.wr W157 (Or.inr ge23)
    have c159 : SS p e below S0 (T157.setTop (mkF m 293 #[vi p0, vi pk, vr uk, .unset, .unset, .unset, .unset, .unset] [(.int 122), (.int 43), (.ref b21), (.ref b21)])) := c158.trans (by
      show SS p e below (T157.setTop (mkF m 288 #[vi p0, vi pk, vr uk, .unset, .unset, .unset, .unset, .unset] [(.ref b21)])) _
      refine XS.dup X157.here hx rfl (hb hby at_288) rfl rfl ?_
      refine XS.bipush X157.here hx rfl (hb hby at_289) ?_
      refine XS.bipush X157.here hx rfl (hb hby at_291) ?_
      exact Steps.refl _)
    obtain ⟨cl160, Ar160, q160, S160, Nn160, Ha160, G160⟩ := id V157
    obtain ⟨T160, h160, X160, e160, W160, st160⟩ := stC X157 hx hZ e157 Ar160 (j := (43 : Int32)) (inb_of S160 ⟨by decide, by decide⟩) (g := (mkF m 293 #[vi p0, vi pk, vr uk, .unset, .unset, .unset, .unset, .unset] [(.int 122), (.int 43), (.ref b21), (.ref b21)])) rfl rfl (hb hby at_293)
    have V160 : Arv Z h160 b21 k21 .char (64 : Int32) [(.int (nar .char (65 : Int32))), (.int (nar .char (98 : Int32))), (.int (nar .char (90 : Int32))), (.int (nar .char (122 : Int32))), (.int (nar .char (48 : Int32))), (.int (nar .char (57 : Int32))), (.int (nar .char (45 : Int32))), (.int (nar .char (95 : Int32))), (.int (nar .char (65 : Int32))), (.int (nar .char (98 : Int32))), (.int (nar .char (90 : Int32))), (.int (nar .char (122 : Int32))), (.int (nar .char (48 : Int32))), (.int (nar .char (57 : Int32))), (.int (nar .char (45 : Int32))), (.int (nar .char (95 : Int32))), (.int (nar .char (65 : Int32))), (.int (nar .char (98 : Int32))), (.int (nar .char (90 : Int32))), (.int (nar .char (122 : Int32))), (.int (nar .char (48 : Int32))), (.int (nar .char (57 : Int32))), (.int (nar .char (45 : Int32))), (.int (nar .char (95 : Int32))), (.int (nar .char (65 : Int32))), (.int (nar .char (98 : Int32))), (.int (nar .char (90 : Int32))), (.int (nar .char (122 : Int32))), (.int (nar .char (48 : Int32))), (.int (nar .char (57 : Int32))), (.int (nar .char (45 : Int32))), (.int (nar .char (95 : Int32))), (.int (nar .char (65 : Int32))), (.int (nar .char (98 : Int32))), (.int (nar .char (90 : Int32))), (.int (nar .char (122 : Int32))), (.int (nar .char (48 : Int32))), (.int (nar .char (57 : Int32))), (.int (nar .char (45 : Int32))), (.int (nar .char (95 : Int32))), (.int (nar .char (65 : Int32))), (.int (nar .char (98 : Int32))), (.int (nar .char (90 : Int32))), (.int (nar .char (122 : Int32))), (.int 0), (.int 0), (.int 0), (.int 0), (.int 0), (.int 0), (.int 0), (.int 0), (.int 0), (.int 0), (.int 0), (.int 0), (.int 0), (.int 0), (.int 0), (.int 0), (.int 0), (.int 0), (.int 0), (.int 0)] (.int 0) := Arv.set Ar160 q160 S160 Nn160 Ha160 G160 (fits_nar_char _) W160 43 rfl (Nat.le_of_ble_eq_true rfl)
    have c161 : SS p e below S0 (T160.setTop (mkF m 294 #[vi p0, vi pk, vr uk, .unset, .unset, .unset, .unset, .unset] [(.ref b21)])) := c159.trans (st160 _ (Steps.refl _))
    have N160 := Fr.snoc X160 N157 (Nat.le_trans Z0 ge23)
    have z160 : n0 ≤ h160.size := Nat.le_trans z157 (Keep.of_wr W160).1
    have K160 := K157.wr W160 (Or.inr ge23)
    have c162 : SS p e below S0 (T160.setTop (mkF m 299 #[vi p0, vi pk, vr uk, .unset, .unset, .unset, .unset, .unset] [(.int 48), (.int 44), (.ref b21), (.ref b21)])) := c161.trans (by
      show SS p e below (T160.setTop (mkF m 294 #[vi p0, vi pk, vr uk, .unset, .unset, .unset, .unset, .unset] [(.ref b21)])) _
      refine XS.dup X160.here hx rfl (hb hby at_294) rfl rfl ?_
      refine XS.bipush X160.here hx rfl (hb hby at_295) ?_
      refine XS.bipush X160.here hx rfl (hb hby at_297) ?_
      exact Steps.refl _)
    obtain ⟨cl163, Ar163, q163, S163, Nn163, Ha163, G163⟩ := id V160
    obtain ⟨T163, h163, X163, e163, W163, st163⟩ := stC X160 hx hZ e160 Ar163 (j := (44 : Int32)) (inb_of S163 ⟨by decide, by decide⟩) (g := (mkF m 299 #[vi p0, vi pk, vr uk, .unset, .unset, .unset, .unset, .unset] [(.int 48), (.int 44), (.ref b21), (.ref b21)])) rfl rfl (hb hby at_299)
    have V163 : Arv Z h163 b21 k21 .char (64 : Int32) [(.int (nar .char (65 : Int32))), (.int (nar .char (98 : Int32))), (.int (nar .char (90 : Int32))), (.int (nar .char (122 : Int32))), (.int (nar .char (48 : Int32))), (.int (nar .char (57 : Int32))), (.int (nar .char (45 : Int32))), (.int (nar .char (95 : Int32))), (.int (nar .char (65 : Int32))), (.int (nar .char (98 : Int32))), (.int (nar .char (90 : Int32))), (.int (nar .char (122 : Int32))), (.int (nar .char (48 : Int32))), (.int (nar .char (57 : Int32))), (.int (nar .char (45 : Int32))), (.int (nar .char (95 : Int32))), (.int (nar .char (65 : Int32))), (.int (nar .char (98 : Int32))), (.int (nar .char (90 : Int32))), (.int (nar .char (122 : Int32))), (.int (nar .char (48 : Int32))), (.int (nar .char (57 : Int32))), (.int (nar .char (45 : Int32))), (.int (nar .char (95 : Int32))), (.int (nar .char (65 : Int32))), (.int (nar .char (98 : Int32))), (.int (nar .char (90 : Int32))), (.int (nar .char (122 : Int32))), (.int (nar .char (48 : Int32))), (.int (nar .char (57 : Int32))), (.int (nar .char (45 : Int32))), (.int (nar .char (95 : Int32))), (.int (nar .char (65 : Int32))), (.int (nar .char (98 : Int32))), (.int (nar .char (90 : Int32))), (.int (nar .char (122 : Int32))), (.int (nar .char (48 : Int32))), (.int (nar .char (57 : Int32))), (.int (nar .char (45 : Int32))), (.int (nar .char (95 : Int32))), (.int (nar .char (65 : Int32))), (.int (nar .char (98 : Int32))), (.int (nar .char (90 : Int32))), (.int (nar .char (122 : Int32))), (.int (nar .char (48 : Int32))), (.int 0), (.int 0), (.int 0), (.int 0), (.int 0), (.int 0), (.int 0), (.int 0), (.int 0), (.int 0), (.int 0), (.int 0), (.int 0), (.int 0), (.int 0), (.int 0), (.int 0), (.int 0), (.int 0)] (.int 0) := Arv.set Ar163 q163 S163 Nn163 Ha163 G163 (fits_nar_char _) W163 44 rfl (Nat.le_of_ble_eq_true rfl)
    have c164 : SS p e below S0 (T163.setTop (mkF m 300 #[vi p0, vi pk, vr uk, .unset, .unset, .unset, .unset, .unset] [(.ref b21)])) := c162.trans (st163 _ (Steps.refl _))
    have N163 := Fr.snoc X163 N160 (Nat.le_trans Z0 ge23)
    have z163 : n0 ≤ h163.size := Nat.le_trans z160 (Keep.of_wr W163).1
    have K163 := K160.wr W163 (Or.inr ge23)
    have c165 : SS p e below S0 (T163.setTop (mkF m 305 #[vi p0, vi pk, vr uk, .unset, .unset, .unset, .unset, .unset] [(.int 57), (.int 45), (.ref b21), (.ref b21)])) := c164.trans (by
      show SS p e below (T163.setTop (mkF m 300 #[vi p0, vi pk, vr uk, .unset, .unset, .unset, .unset, .unset] [(.ref b21)])) _
      refine XS.dup X163.here hx rfl (hb hby at_300) rfl rfl ?_
      refine XS.bipush X163.here hx rfl (hb hby at_301) ?_
      refine XS.bipush X163.here hx rfl (hb hby at_303) ?_
      exact Steps.refl _)
    obtain ⟨cl166, Ar166, q166, S166, Nn166, Ha166, G166⟩ := id V163
    obtain ⟨T166, h166, X166, e166, W166, st166⟩ := stC X163 hx hZ e163 Ar166 (j := (45 : Int32)) (inb_of S166 ⟨by decide, by decide⟩) (g := (mkF m 305 #[vi p0, vi pk, vr uk, .unset, .unset, .unset, .unset, .unset] [(.int 57), (.int 45), (.ref b21), (.ref b21)])) rfl rfl (hb hby at_305)
    have V166 : Arv Z h166 b21 k21 .char (64 : Int32) [(.int (nar .char (65 : Int32))), (.int (nar .char (98 : Int32))), (.int (nar .char (90 : Int32))), (.int (nar .char (122 : Int32))), (.int (nar .char (48 : Int32))), (.int (nar .char (57 : Int32))), (.int (nar .char (45 : Int32))), (.int (nar .char (95 : Int32))), (.int (nar .char (65 : Int32))), (.int (nar .char (98 : Int32))), (.int (nar .char (90 : Int32))), (.int (nar .char (122 : Int32))), (.int (nar .char (48 : Int32))), (.int (nar .char (57 : Int32))), (.int (nar .char (45 : Int32))), (.int (nar .char (95 : Int32))), (.int (nar .char (65 : Int32))), (.int (nar .char (98 : Int32))), (.int (nar .char (90 : Int32))), (.int (nar .char (122 : Int32))), (.int (nar .char (48 : Int32))), (.int (nar .char (57 : Int32))), (.int (nar .char (45 : Int32))), (.int (nar .char (95 : Int32))), (.int (nar .char (65 : Int32))), (.int (nar .char (98 : Int32))), (.int (nar .char (90 : Int32))), (.int (nar .char (122 : Int32))), (.int (nar .char (48 : Int32))), (.int (nar .char (57 : Int32))), (.int (nar .char (45 : Int32))), (.int (nar .char (95 : Int32))), (.int (nar .char (65 : Int32))), (.int (nar .char (98 : Int32))), (.int (nar .char (90 : Int32))), (.int (nar .char (122 : Int32))), (.int (nar .char (48 : Int32))), (.int (nar .char (57 : Int32))), (.int (nar .char (45 : Int32))), (.int (nar .char (95 : Int32))), (.int (nar .char (65 : Int32))), (.int (nar .char (98 : Int32))), (.int (nar .char (90 : Int32))), (.int (nar .char (122 : Int32))), (.int (nar .char (48 : Int32))), (.int (nar .char (57 : Int32))), (.int 0), (.int 0), (.int 0), (.int 0), (.int 0), (.int 0), (.int 0), (.int 0), (.int 0), (.int 0), (.int 0), (.int 0), (.int 0), (.int 0), (.int 0), (.int 0), (.int 0), (.int 0)] (.int 0) := Arv.set Ar166 q166 S166 Nn166 Ha166 G166 (fits_nar_char _) W166 45 rfl (Nat.le_of_ble_eq_true rfl)
    have c167 : SS p e below S0 (T166.setTop (mkF m 306 #[vi p0, vi pk, vr uk, .unset, .unset, .unset, .unset, .unset] [(.ref b21)])) := c165.trans (st166 _ (Steps.refl _))
    have N166 := Fr.snoc X166 N163 (Nat.le_trans Z0 ge23)
    have z166 : n0 ≤ h166.size := Nat.le_trans z163 (Keep.of_wr W166).1
    have K166 := K163.wr W166 (Or.inr ge23)
    have c168 : SS p e below S0 (T166.setTop (mkF m 311 #[vi p0, vi pk, vr uk, .unset, .unset, .unset, .unset, .unset] [(.int 45), (.int 46), (.ref b21), (.ref b21)])) := c167.trans (by
      show SS p e below (T166.setTop (mkF m 306 #[vi p0, vi pk, vr uk, .unset, .unset, .unset, .unset, .unset] [(.ref b21)])) _
      refine XS.dup X166.here hx rfl (hb hby at_306) rfl rfl ?_
      refine XS.bipush X166.here hx rfl (hb hby at_307) ?_
      refine XS.bipush X166.here hx rfl (hb hby at_309) ?_
      exact Steps.refl _)
    obtain ⟨cl169, Ar169, q169, S169, Nn169, Ha169, G169⟩ := id V166
    obtain ⟨T169, h169, X169, e169, W169, st169⟩ := stC X166 hx hZ e166 Ar169 (j := (46 : Int32)) (inb_of S169 ⟨by decide, by decide⟩) (g := (mkF m 311 #[vi p0, vi pk, vr uk, .unset, .unset, .unset, .unset, .unset] [(.int 45), (.int 46), (.ref b21), (.ref b21)])) rfl rfl (hb hby at_311)
    have V169 : Arv Z h169 b21 k21 .char (64 : Int32) [(.int (nar .char (65 : Int32))), (.int (nar .char (98 : Int32))), (.int (nar .char (90 : Int32))), (.int (nar .char (122 : Int32))), (.int (nar .char (48 : Int32))), (.int (nar .char (57 : Int32))), (.int (nar .char (45 : Int32))), (.int (nar .char (95 : Int32))), (.int (nar .char (65 : Int32))), (.int (nar .char (98 : Int32))), (.int (nar .char (90 : Int32))), (.int (nar .char (122 : Int32))), (.int (nar .char (48 : Int32))), (.int (nar .char (57 : Int32))), (.int (nar .char (45 : Int32))), (.int (nar .char (95 : Int32))), (.int (nar .char (65 : Int32))), (.int (nar .char (98 : Int32))), (.int (nar .char (90 : Int32))), (.int (nar .char (122 : Int32))), (.int (nar .char (48 : Int32))), (.int (nar .char (57 : Int32))), (.int (nar .char (45 : Int32))), (.int (nar .char (95 : Int32))), (.int (nar .char (65 : Int32))), (.int (nar .char (98 : Int32))), (.int (nar .char (90 : Int32))), (.int (nar .char (122 : Int32))), (.int (nar .char (48 : Int32))), (.int (nar .char (57 : Int32))), (.int (nar .char (45 : Int32))), (.int (nar .char (95 : Int32))), (.int (nar .char (65 : Int32))), (.int (nar .char (98 : Int32))), (.int (nar .char (90 : Int32))), (.int (nar .char (122 : Int32))), (.int (nar .char (48 : Int32))), (.int (nar .char (57 : Int32))), (.int (nar .char (45 : Int32))), (.int (nar .char (95 : Int32))), (.int (nar .char (65 : Int32))), (.int (nar .char (98 : Int32))), (.int (nar .char (90 : Int32))), (.int (nar .char (122 : Int32))), (.int (nar .char (48 : Int32))), (.int (nar .char (57 : Int32))), (.int (nar .char (45 : Int32))), (.int 0), (.int 0), (.int 0), (.int 0), (.int 0), (.int 0), (.int 0), (.int 0), (.int 0), (.int 0), (.int 0), (.int 0), (.int 0), (.int 0), (.int 0), (.int 0), (.int 0)] (.int 0) := Arv.set Ar169 q169 S169 Nn169 Ha169 G169 (fits_nar_char _) W169 46 rfl (Nat.le_of_ble_eq_true rfl)
    have c170 : SS p e below S0 (T169.setTop (mkF m 312 #[vi p0, vi pk, vr uk, .unset, .unset, .unset, .unset, .unset] [(.ref b21)])) := c168.trans (st169 _ (Steps.refl _))
    have N169 := Fr.snoc X169 N166 (Nat.le_trans Z0 ge23)
    have z169 : n0 ≤ h169.size := Nat.le_trans z166 (Keep.of_wr W169).1
    have K169 := K166.wr W169 (Or.inr ge23)
    have c171 : SS p e below S0 (T169.setTop (mkF m 317 #[vi p0, vi pk, vr uk, .unset, .unset, .unset, .unset, .unset] [(.int 95), (.int 47), (.ref b21), (.ref b21)])) := c170.trans (by
      show SS p e below (T169.setTop (mkF m 312 #[vi p0, vi pk, vr uk, .unset, .unset, .unset, .unset, .unset] [(.ref b21)])) _
      refine XS.dup X169.here hx rfl (hb hby at_312) rfl rfl ?_
      refine XS.bipush X169.here hx rfl (hb hby at_313) ?_
      refine XS.bipush X169.here hx rfl (hb hby at_315) ?_
      exact Steps.refl _)
    obtain ⟨cl172, Ar172, q172, S172, Nn172, Ha172, G172⟩ := id V169
    obtain ⟨T172, h172, X172, e172, W172, st172⟩ := stC X169 hx hZ e169 Ar172 (j := (47 : Int32)) (inb_of S172 ⟨by decide, by decide⟩) (g := (mkF m 317 #[vi p0, vi pk, vr uk, .unset, .unset, .unset, .unset, .unset] [(.int 95), (.int 47), (.ref b21), (.ref b21)])) rfl rfl (hb hby at_317)
    have V172 : Arv Z h172 b21 k21 .char (64 : Int32) [(.int (nar .char (65 : Int32))), (.int (nar .char (98 : Int32))), (.int (nar .char (90 : Int32))), (.int (nar .char (122 : Int32))), (.int (nar .char (48 : Int32))), (.int (nar .char (57 : Int32))), (.int (nar .char (45 : Int32))), (.int (nar .char (95 : Int32))), (.int (nar .char (65 : Int32))), (.int (nar .char (98 : Int32))), (.int (nar .char (90 : Int32))), (.int (nar .char (122 : Int32))), (.int (nar .char (48 : Int32))), (.int (nar .char (57 : Int32))), (.int (nar .char (45 : Int32))), (.int (nar .char (95 : Int32))), (.int (nar .char (65 : Int32))), (.int (nar .char (98 : Int32))), (.int (nar .char (90 : Int32))), (.int (nar .char (122 : Int32))), (.int (nar .char (48 : Int32))), (.int (nar .char (57 : Int32))), (.int (nar .char (45 : Int32))), (.int (nar .char (95 : Int32))), (.int (nar .char (65 : Int32))), (.int (nar .char (98 : Int32))), (.int (nar .char (90 : Int32))), (.int (nar .char (122 : Int32))), (.int (nar .char (48 : Int32))), (.int (nar .char (57 : Int32))), (.int (nar .char (45 : Int32))), (.int (nar .char (95 : Int32))), (.int (nar .char (65 : Int32))), (.int (nar .char (98 : Int32))), (.int (nar .char (90 : Int32))), (.int (nar .char (122 : Int32))), (.int (nar .char (48 : Int32))), (.int (nar .char (57 : Int32))), (.int (nar .char (45 : Int32))), (.int (nar .char (95 : Int32))), (.int (nar .char (65 : Int32))), (.int (nar .char (98 : Int32))), (.int (nar .char (90 : Int32))), (.int (nar .char (122 : Int32))), (.int (nar .char (48 : Int32))), (.int (nar .char (57 : Int32))), (.int (nar .char (45 : Int32))), (.int (nar .char (95 : Int32))), (.int 0), (.int 0), (.int 0), (.int 0), (.int 0), (.int 0), (.int 0), (.int 0), (.int 0), (.int 0), (.int 0), (.int 0), (.int 0), (.int 0), (.int 0), (.int 0)] (.int 0) := Arv.set Ar172 q172 S172 Nn172 Ha172 G172 (fits_nar_char _) W172 47 rfl (Nat.le_of_ble_eq_true rfl)
    have c173 : SS p e below S0 (T172.setTop (mkF m 318 #[vi p0, vi pk, vr uk, .unset, .unset, .unset, .unset, .unset] [(.ref b21)])) := c171.trans (st172 _ (Steps.refl _))
    have N172 := Fr.snoc X172 N169 (Nat.le_trans Z0 ge23)
    have z172 : n0 ≤ h172.size := Nat.le_trans z169 (Keep.of_wr W172).1
    have K172 := K169.wr W172 (Or.inr ge23)
    exact ⟨T172, _, _, N172, X172, e172, K172, z172, ((((((((O124.wr W151 (Nat.le_trans Z0 ge23)).wr W154 (Nat.le_trans Z0 ge23)).wr W157 (Nat.le_trans Z0 ge23)).wr W160 (Nat.le_trans Z0 ge23)).wr W163 (Nat.le_trans Z0 ge23)).wr W166 (Nat.le_trans Z0 ge23)).wr W169 (Nat.le_trans Z0 ge23)).wr W172 (Nat.le_trans Z0 ge23)), V172, c173⟩
  obtain ⟨T174, h174, l174, N174, X174, e174, K174, z174, O174, V174_b21, c174⟩ : ∃ (T : State) (h : Heap) (locs : List Loc), Fr n0 locs ∧ Stand p l e room_1 s m #[(.int p0)] below meth c T locs 1 64 ∧ T.heap = h ∧ Keep h0 h [] ∧ n0 ≤ h.size ∧ Old Z n0 h ∧ Arv Z h b21 k21 .char (64 : Int32) [(.int (nar .char (65 : Int32))), (.int (nar .char (98 : Int32))), (.int (nar .char (90 : Int32))), (.int (nar .char (122 : Int32))), (.int (nar .char (48 : Int32))), (.int (nar .char (57 : Int32))), (.int (nar .char (45 : Int32))), (.int (nar .char (95 : Int32))), (.int (nar .char (65 : Int32))), (.int (nar .char (98 : Int32))), (.int (nar .char (90 : Int32))), (.int (nar .char (122 : Int32))), (.int (nar .char (48 : Int32))), (.int (nar .char (57 : Int32))), (.int (nar .char (45 : Int32))), (.int (nar .char (95 : Int32))), (.int (nar .char (65 : Int32))), (.int (nar .char (98 : Int32))), (.int (nar .char (90 : Int32))), (.int (nar .char (122 : Int32))), (.int (nar .char (48 : Int32))), (.int (nar .char (57 : Int32))), (.int (nar .char (45 : Int32))), (.int (nar .char (95 : Int32))), (.int (nar .char (65 : Int32))), (.int (nar .char (98 : Int32))), (.int (nar .char (90 : Int32))), (.int (nar .char (122 : Int32))), (.int (nar .char (48 : Int32))), (.int (nar .char (57 : Int32))), (.int (nar .char (45 : Int32))), (.int (nar .char (95 : Int32))), (.int (nar .char (65 : Int32))), (.int (nar .char (98 : Int32))), (.int (nar .char (90 : Int32))), (.int (nar .char (122 : Int32))), (.int (nar .char (48 : Int32))), (.int (nar .char (57 : Int32))), (.int (nar .char (45 : Int32))), (.int (nar .char (95 : Int32))), (.int (nar .char (65 : Int32))), (.int (nar .char (98 : Int32))), (.int (nar .char (90 : Int32))), (.int (nar .char (122 : Int32))), (.int (nar .char (48 : Int32))), (.int (nar .char (57 : Int32))), (.int (nar .char (45 : Int32))), (.int (nar .char (95 : Int32))), (.int (nar .char (65 : Int32))), (.int (nar .char (98 : Int32))), (.int (nar .char (90 : Int32))), (.int (nar .char (122 : Int32))), (.int (nar .char (48 : Int32))), (.int (nar .char (57 : Int32))), (.int (nar .char (45 : Int32))), (.int (nar .char (95 : Int32))), (.int 0), (.int 0), (.int 0), (.int 0), (.int 0), (.int 0), (.int 0), (.int 0)] (.int 0) ∧ SS p e below S0 (T.setTop (mkF m 366 #[vi p0, vi pk, vr uk, .unset, .unset, .unset, .unset, .unset] [(.ref b21)])) := by
    have c175 : SS p e below S0 (T149.setTop (mkF m 323 #[vi p0, vi pk, vr uk, .unset, .unset, .unset, .unset, .unset] [(.int 65), (.int 48), (.ref b21), (.ref b21)])) := c149.trans (by
      show SS p e below (T149.setTop (mkF m 318 #[vi p0, vi pk, vr uk, .unset, .unset, .unset, .unset, .unset] [(.ref b21)])) _
      refine XS.dup X149.here hx rfl (hb hby at_318) rfl rfl ?_
      refine XS.bipush X149.here hx rfl (hb hby at_319) ?_
      refine XS.bipush X149.here hx rfl (hb hby at_321) ?_
      exact Steps.refl _)
    obtain ⟨cl176, Ar176, q176, S176, Nn176, Ha176, G176⟩ := id V149_b21
    obtain ⟨T176, h176, X176, e176, W176, st176⟩ := stC X149 hx hZ e149 Ar176 (j := (48 : Int32)) (inb_of S176 ⟨by decide, by decide⟩) (g := (mkF m 323 #[vi p0, vi pk, vr uk, .unset, .unset, .unset, .unset, .unset] [(.int 65), (.int 48), (.ref b21), (.ref b21)])) rfl rfl (hb hby at_323)
    have V176 : Arv Z h176 b21 k21 .char (64 : Int32) [(.int (nar .char (65 : Int32))), (.int (nar .char (98 : Int32))), (.int (nar .char (90 : Int32))), (.int (nar .char (122 : Int32))), (.int (nar .char (48 : Int32))), (.int (nar .char (57 : Int32))), (.int (nar .char (45 : Int32))), (.int (nar .char (95 : Int32))), (.int (nar .char (65 : Int32))), (.int (nar .char (98 : Int32))), (.int (nar .char (90 : Int32))), (.int (nar .char (122 : Int32))), (.int (nar .char (48 : Int32))), (.int (nar .char (57 : Int32))), (.int (nar .char (45 : Int32))), (.int (nar .char (95 : Int32))), (.int (nar .char (65 : Int32))), (.int (nar .char (98 : Int32))), (.int (nar .char (90 : Int32))), (.int (nar .char (122 : Int32))), (.int (nar .char (48 : Int32))), (.int (nar .char (57 : Int32))), (.int (nar .char (45 : Int32))), (.int (nar .char (95 : Int32))), (.int (nar .char (65 : Int32))), (.int (nar .char (98 : Int32))), (.int (nar .char (90 : Int32))), (.int (nar .char (122 : Int32))), (.int (nar .char (48 : Int32))), (.int (nar .char (57 : Int32))), (.int (nar .char (45 : Int32))), (.int (nar .char (95 : Int32))), (.int (nar .char (65 : Int32))), (.int (nar .char (98 : Int32))), (.int (nar .char (90 : Int32))), (.int (nar .char (122 : Int32))), (.int (nar .char (48 : Int32))), (.int (nar .char (57 : Int32))), (.int (nar .char (45 : Int32))), (.int (nar .char (95 : Int32))), (.int (nar .char (65 : Int32))), (.int (nar .char (98 : Int32))), (.int (nar .char (90 : Int32))), (.int (nar .char (122 : Int32))), (.int (nar .char (48 : Int32))), (.int (nar .char (57 : Int32))), (.int (nar .char (45 : Int32))), (.int (nar .char (95 : Int32))), (.int (nar .char (65 : Int32))), (.int 0), (.int 0), (.int 0), (.int 0), (.int 0), (.int 0), (.int 0), (.int 0), (.int 0), (.int 0), (.int 0), (.int 0), (.int 0), (.int 0), (.int 0)] (.int 0) := Arv.set Ar176 q176 S176 Nn176 Ha176 G176 (fits_nar_char _) W176 48 rfl (Nat.le_of_ble_eq_true rfl)
    have c177 : SS p e below S0 (T176.setTop (mkF m 324 #[vi p0, vi pk, vr uk, .unset, .unset, .unset, .unset, .unset] [(.ref b21)])) := c175.trans (st176 _ (Steps.refl _))
    have N176 := Fr.snoc X176 N149 (Nat.le_trans Z0 ge23)
    have z176 : n0 ≤ h176.size := Nat.le_trans z149 (Keep.of_wr W176).1
    have K176 := K149.wr W176 (Or.inr ge23)
    have c178 : SS p e below S0 (T176.setTop (mkF m 329 #[vi p0, vi pk, vr uk, .unset, .unset, .unset, .unset, .unset] [(.int 98), (.int 49), (.ref b21), (.ref b21)])) := c177.trans (by
      show SS p e below (T176.setTop (mkF m 324 #[vi p0, vi pk, vr uk, .unset, .unset, .unset, .unset, .unset] [(.ref b21)])) _
      refine XS.dup X176.here hx rfl (hb hby at_324) rfl rfl ?_
      refine XS.bipush X176.here hx rfl (hb hby at_325) ?_
      refine XS.bipush X176.here hx rfl (hb hby at_327) ?_
      exact Steps.refl _)
    obtain ⟨cl179, Ar179, q179, S179, Nn179, Ha179, G179⟩ := id V176
    obtain ⟨T179, h179, X179, e179, W179, st179⟩ := stC X176 hx hZ e176 Ar179 (j := (49 : Int32)) (inb_of S179 ⟨by decide, by decide⟩) (g := (mkF m 329 #[vi p0, vi pk, vr uk, .unset, .unset, .unset, .unset, .unset] [(.int 98), (.int 49), (.ref b21), (.ref b21)])) rfl rfl (hb hby at_329)
    have V179 : Arv Z h179 b21 k21 .char (64 : Int32) [(.int (nar .char (65 : Int32))), (.int (nar .char (98 : Int32))), (.int (nar .char (90 : Int32))), (.int (nar .char (122 : Int32))), (.int (nar .char (48 : Int32))), (.int (nar .char (57 : Int32))), (.int (nar .char (45 : Int32))), (.int (nar .char (95 : Int32))), (.int (nar .char (65 : Int32))), (.int (nar .char (98 : Int32))), (.int (nar .char (90 : Int32))), (.int (nar .char (122 : Int32))), (.int (nar .char (48 : Int32))), (.int (nar .char (57 : Int32))), (.int (nar .char (45 : Int32))), (.int (nar .char (95 : Int32))), (.int (nar .char (65 : Int32))), (.int (nar .char (98 : Int32))), (.int (nar .char (90 : Int32))), (.int (nar .char (122 : Int32))), (.int (nar .char (48 : Int32))), (.int (nar .char (57 : Int32))), (.int (nar .char (45 : Int32))), (.int (nar .char (95 : Int32))), (.int (nar .char (65 : Int32))), (.int (nar .char (98 : Int32))), (.int (nar .char (90 : Int32))), (.int (nar .char (122 : Int32))), (.int (nar .char (48 : Int32))), (.int (nar .char (57 : Int32))), (.int (nar .char (45 : Int32))), (.int (nar .char (95 : Int32))), (.int (nar .char (65 : Int32))), (.int (nar .char (98 : Int32))), (.int (nar .char (90 : Int32))), (.int (nar .char (122 : Int32))), (.int (nar .char (48 : Int32))), (.int (nar .char (57 : Int32))), (.int (nar .char (45 : Int32))), (.int (nar .char (95 : Int32))), (.int (nar .char (65 : Int32))), (.int (nar .char (98 : Int32))), (.int (nar .char (90 : Int32))), (.int (nar .char (122 : Int32))), (.int (nar .char (48 : Int32))), (.int (nar .char (57 : Int32))), (.int (nar .char (45 : Int32))), (.int (nar .char (95 : Int32))), (.int (nar .char (65 : Int32))), (.int (nar .char (98 : Int32))), (.int 0), (.int 0), (.int 0), (.int 0), (.int 0), (.int 0), (.int 0), (.int 0), (.int 0), (.int 0), (.int 0), (.int 0), (.int 0), (.int 0)] (.int 0) := Arv.set Ar179 q179 S179 Nn179 Ha179 G179 (fits_nar_char _) W179 49 rfl (Nat.le_of_ble_eq_true rfl)
    have c180 : SS p e below S0 (T179.setTop (mkF m 330 #[vi p0, vi pk, vr uk, .unset, .unset, .unset, .unset, .unset] [(.ref b21)])) := c178.trans (st179 _ (Steps.refl _))
    have N179 := Fr.snoc X179 N176 (Nat.le_trans Z0 ge23)
    have z179 : n0 ≤ h179.size := Nat.le_trans z176 (Keep.of_wr W179).1
    have K179 := K176.wr W179 (Or.inr ge23)
    have c181 : SS p e below S0 (T179.setTop (mkF m 335 #[vi p0, vi pk, vr uk, .unset, .unset, .unset, .unset, .unset] [(.int 90), (.int 50), (.ref b21), (.ref b21)])) := c180.trans (by
      show SS p e below (T179.setTop (mkF m 330 #[vi p0, vi pk, vr uk, .unset, .unset, .unset, .unset, .unset] [(.ref b21)])) _
      refine XS.dup X179.here hx rfl (hb hby at_330) rfl rfl ?_
      refine XS.bipush X179.here hx rfl (hb hby at_331) ?_
      refine XS.bipush X179.here hx rfl (hb hby at_333) ?_
      exact Steps.refl _)
    obtain ⟨cl182, Ar182, q182, S182, Nn182, Ha182, G182⟩ := id V179
    obtain ⟨T182, h182, X182, e182, W182, st182⟩ := stC X179 hx hZ e179 Ar182 (j := (50 : Int32)) (inb_of S182 ⟨by decide, by decide⟩) (g := (mkF m 335 #[vi p0, vi pk, vr uk, .unset, .unset, .unset, .unset, .unset] [(.int 90), (.int 50), (.ref b21), (.ref b21)])) rfl rfl (hb hby at_335)
    have V182 : Arv Z h182 b21 k21 .char (64 : Int32) [(.int (nar .char (65 : Int32))), (.int (nar .char (98 : Int32))), (.int (nar .char (90 : Int32))), (.int (nar .char (122 : Int32))), (.int (nar .char (48 : Int32))), (.int (nar .char (57 : Int32))), (.int (nar .char (45 : Int32))), (.int (nar .char (95 : Int32))), (.int (nar .char (65 : Int32))), (.int (nar .char (98 : Int32))), (.int (nar .char (90 : Int32))), (.int (nar .char (122 : Int32))), (.int (nar .char (48 : Int32))), (.int (nar .char (57 : Int32))), (.int (nar .char (45 : Int32))), (.int (nar .char (95 : Int32))), (.int (nar .char (65 : Int32))), (.int (nar .char (98 : Int32))), (.int (nar .char (90 : Int32))), (.int (nar .char (122 : Int32))), (.int (nar .char (48 : Int32))), (.int (nar .char (57 : Int32))), (.int (nar .char (45 : Int32))), (.int (nar .char (95 : Int32))), (.int (nar .char (65 : Int32))), (.int (nar .char (98 : Int32))), (.int (nar .char (90 : Int32))), (.int (nar .char (122 : Int32))), (.int (nar .char (48 : Int32))), (.int (nar .char (57 : Int32))), (.int (nar .char (45 : Int32))), (.int (nar .char (95 : Int32))), (.int (nar .char (65 : Int32))), (.int (nar .char (98 : Int32))), (.int (nar .char (90 : Int32))), (.int (nar .char (122 : Int32))), (.int (nar .char (48 : Int32))), (.int (nar .char (57 : Int32))), (.int (nar .char (45 : Int32))), (.int (nar .char (95 : Int32))), (.int (nar .char (65 : Int32))), (.int (nar .char (98 : Int32))), (.int (nar .char (90 : Int32))), (.int (nar .char (122 : Int32))), (.int (nar .char (48 : Int32))), (.int (nar .char (57 : Int32))), (.int (nar .char (45 : Int32))), (.int (nar .char (95 : Int32))), (.int (nar .char (65 : Int32))), (.int (nar .char (98 : Int32))), (.int (nar .char (90 : Int32))), (.int 0), (.int 0), (.int 0), (.int 0), (.int 0), (.int 0), (.int 0), (.int 0), (.int 0), (.int 0), (.int 0), (.int 0), (.int 0)] (.int 0) := Arv.set Ar182 q182 S182 Nn182 Ha182 G182 (fits_nar_char _) W182 50 rfl (Nat.le_of_ble_eq_true rfl)
    have c183 : SS p e below S0 (T182.setTop (mkF m 336 #[vi p0, vi pk, vr uk, .unset, .unset, .unset, .unset, .unset] [(.ref b21)])) := c181.trans (st182 _ (Steps.refl _))
    have N182 := Fr.snoc X182 N179 (Nat.le_trans Z0 ge23)
    have z182 : n0 ≤ h182.size := Nat.le_trans z179 (Keep.of_wr W182).1
    have K182 := K179.wr W182 (Or.inr ge23)
    have c184 : SS p e below S0 (T182.setTop (mkF m 341 #[vi p0, vi pk, vr uk, .unset, .unset, .unset, .unset, .unset] [(.int 122), (.int 51), (.ref b21), (.ref b21)])) := c183.trans (by
      show SS p e below (T182.setTop (mkF m 336 #[vi p0, vi pk, vr uk, .unset, .unset, .unset, .unset, .unset] [(.ref b21)])) _
      refine XS.dup X182.here hx rfl (hb hby at_336) rfl rfl ?_
      refine XS.bipush X182.here hx rfl (hb hby at_337) ?_
      refine XS.bipush X182.here hx rfl (hb hby at_339) ?_
      exact Steps.refl _)
    obtain ⟨cl185, Ar185, q185, S185, Nn185, Ha185, G185⟩ := id V182
    obtain ⟨T185, h185, X185, e185, W185, st185⟩ := stC X182 hx hZ e182 Ar185 (j := (51 : Int32)) (inb_of S185 ⟨by decide, by decide⟩) (g := (mkF m 341 #[vi p0, vi pk, vr uk, .unset, .unset, .unset, .unset, .unset] [(.int 122), (.int 51), (.ref b21), (.ref b21)])) rfl rfl (hb hby at_341)
    have V185 : Arv Z h185 b21 k21 .char (64 : Int32) [(.int (nar .char (65 : Int32))), (.int (nar .char (98 : Int32))), (.int (nar .char (90 : Int32))), (.int (nar .char (122 : Int32))), (.int (nar .char (48 : Int32))), (.int (nar .char (57 : Int32))), (.int (nar .char (45 : Int32))), (.int (nar .char (95 : Int32))), (.int (nar .char (65 : Int32))), (.int (nar .char (98 : Int32))), (.int (nar .char (90 : Int32))), (.int (nar .char (122 : Int32))), (.int (nar .char (48 : Int32))), (.int (nar .char (57 : Int32))), (.int (nar .char (45 : Int32))), (.int (nar .char (95 : Int32))), (.int (nar .char (65 : Int32))), (.int (nar .char (98 : Int32))), (.int (nar .char (90 : Int32))), (.int (nar .char (122 : Int32))), (.int (nar .char (48 : Int32))), (.int (nar .char (57 : Int32))), (.int (nar .char (45 : Int32))), (.int (nar .char (95 : Int32))), (.int (nar .char (65 : Int32))), (.int (nar .char (98 : Int32))), (.int (nar .char (90 : Int32))), (.int (nar .char (122 : Int32))), (.int (nar .char (48 : Int32))), (.int (nar .char (57 : Int32))), (.int (nar .char (45 : Int32))), (.int (nar .char (95 : Int32))), (.int (nar .char (65 : Int32))), (.int (nar .char (98 : Int32))), (.int (nar .char (90 : Int32))), (.int (nar .char (122 : Int32))), (.int (nar .char (48 : Int32))), (.int (nar .char (57 : Int32))), (.int (nar .char (45 : Int32))), (.int (nar .char (95 : Int32))), (.int (nar .char (65 : Int32))), (.int (nar .char (98 : Int32))), (.int (nar .char (90 : Int32))), (.int (nar .char (122 : Int32))), (.int (nar .char (48 : Int32))), (.int (nar .char (57 : Int32))), (.int (nar .char (45 : Int32))), (.int (nar .char (95 : Int32))), (.int (nar .char (65 : Int32))), (.int (nar .char (98 : Int32))), (.int (nar .char (90 : Int32))), (.int (nar .char (122 : Int32))), (.int 0), (.int 0), (.int 0), (.int 0), (.int 0), (.int 0), (.int 0), (.int 0), (.int 0), (.int 0), (.int 0), (.int 0)] (.int 0) := Arv.set Ar185 q185 S185 Nn185 Ha185 G185 (fits_nar_char _) W185 51 rfl (Nat.le_of_ble_eq_true rfl)
    have c186 : SS p e below S0 (T185.setTop (mkF m 342 #[vi p0, vi pk, vr uk, .unset, .unset, .unset, .unset, .unset] [(.ref b21)])) := c184.trans (st185 _ (Steps.refl _))
    have N185 := Fr.snoc X185 N182 (Nat.le_trans Z0 ge23)
    have z185 : n0 ≤ h185.size := Nat.le_trans z182 (Keep.of_wr W185).1
    have K185 := K182.wr W185 (Or.inr ge23)
    have c187 : SS p e below S0 (T185.setTop (mkF m 347 #[vi p0, vi pk, vr uk, .unset, .unset, .unset, .unset, .unset] [(.int 48), (.int 52), (.ref b21), (.ref b21)])) := c186.trans (by
      show SS p e below (T185.setTop (mkF m 342 #[vi p0, vi pk, vr uk, .unset, .unset, .unset, .unset, .unset] [(.ref b21)])) _
      refine XS.dup X185.here hx rfl (hb hby at_342) rfl rfl ?_
      refine XS.bipush X185.here hx rfl (hb hby at_343) ?_
      refine XS.bipush X185.here hx rfl (hb hby at_345) ?_
      exact Steps.refl _)
    obtain ⟨cl188, Ar188, q188, S188, Nn188, Ha188, G188⟩ := id V185
    obtain ⟨T188, h188, X188, e188, W188, st188⟩ := stC X185 hx hZ e185 Ar188 (j := (52 : Int32)) (inb_of S188 ⟨by decide, by decide⟩) (g := (mkF m 347 #[vi p0, vi pk, vr uk, .unset, .unset, .unset, .unset, .unset] [(.int 48), (.int 52), (.ref b21), (.ref b21)])) rfl rfl (hb hby at_347)
    have V188 : Arv Z h188 b21 k21 .char (64 : Int32) [(.int (nar .char (65 : Int32))), (.int (nar .char (98 : Int32))), (.int (nar .char (90 : Int32))), (.int (nar .char (122 : Int32))), (.int (nar .char (48 : Int32))), (.int (nar .char (57 : Int32))), (.int (nar .char (45 : Int32))), (.int (nar .char (95 : Int32))), (.int (nar .char (65 : Int32))), (.int (nar .char (98 : Int32))), (.int (nar .char (90 : Int32))), (.int (nar .char (122 : Int32))), (.int (nar .char (48 : Int32))), (.int (nar .char (57 : Int32))), (.int (nar .char (45 : Int32))), (.int (nar .char (95 : Int32))), (.int (nar .char (65 : Int32))), (.int (nar .char (98 : Int32))), (.int (nar .char (90 : Int32))), (.int (nar .char (122 : Int32))), (.int (nar .char (48 : Int32))), (.int (nar .char (57 : Int32))), (.int (nar .char (45 : Int32))), (.int (nar .char (95 : Int32))), (.int (nar .char (65 : Int32))), (.int (nar .char (98 : Int32))), (.int (nar .char (90 : Int32))), (.int (nar .char (122 : Int32))), (.int (nar .char (48 : Int32))), (.int (nar .char (57 : Int32))), (.int (nar .char (45 : Int32))), (.int (nar .char (95 : Int32))), (.int (nar .char (65 : Int32))), (.int (nar .char (98 : Int32))), (.int (nar .char (90 : Int32))), (.int (nar .char (122 : Int32))), (.int (nar .char (48 : Int32))), (.int (nar .char (57 : Int32))), (.int (nar .char (45 : Int32))), (.int (nar .char (95 : Int32))), (.int (nar .char (65 : Int32))), (.int (nar .char (98 : Int32))), (.int (nar .char (90 : Int32))), (.int (nar .char (122 : Int32))), (.int (nar .char (48 : Int32))), (.int (nar .char (57 : Int32))), (.int (nar .char (45 : Int32))), (.int (nar .char (95 : Int32))), (.int (nar .char (65 : Int32))), (.int (nar .char (98 : Int32))), (.int (nar .char (90 : Int32))), (.int (nar .char (122 : Int32))), (.int (nar .char (48 : Int32))), (.int 0), (.int 0), (.int 0), (.int 0), (.int 0), (.int 0), (.int 0), (.int 0), (.int 0), (.int 0), (.int 0)] (.int 0) := Arv.set Ar188 q188 S188 Nn188 Ha188 G188 (fits_nar_char _) W188 52 rfl (Nat.le_of_ble_eq_true rfl)
    have c189 : SS p e below S0 (T188.setTop (mkF m 348 #[vi p0, vi pk, vr uk, .unset, .unset, .unset, .unset, .unset] [(.ref b21)])) := c187.trans (st188 _ (Steps.refl _))
    have N188 := Fr.snoc X188 N185 (Nat.le_trans Z0 ge23)
    have z188 : n0 ≤ h188.size := Nat.le_trans z185 (Keep.of_wr W188).1
    have K188 := K185.wr W188 (Or.inr ge23)
    have c190 : SS p e below S0 (T188.setTop (mkF m 353 #[vi p0, vi pk, vr uk, .unset, .unset, .unset, .unset, .unset] [(.int 57), (.int 53), (.ref b21), (.ref b21)])) := c189.trans (by
      show SS p e below (T188.setTop (mkF m 348 #[vi p0, vi pk, vr uk, .unset, .unset, .unset, .unset, .unset] [(.ref b21)])) _
      refine XS.dup X188.here hx rfl (hb hby at_348) rfl rfl ?_
      refine XS.bipush X188.here hx rfl (hb hby at_349) ?_
      refine XS.bipush X188.here hx rfl (hb hby at_351) ?_
      exact Steps.refl _)
    obtain ⟨cl191, Ar191, q191, S191, Nn191, Ha191, G191⟩ := id V188
    obtain ⟨T191, h191, X191, e191, W191, st191⟩ := stC X188 hx hZ e188 Ar191 (j := (53 : Int32)) (inb_of S191 ⟨by decide, by decide⟩) (g := (mkF m 353 #[vi p0, vi pk, vr uk, .unset, .unset, .unset, .unset, .unset] [(.int 57), (.int 53), (.ref b21), (.ref b21)])) rfl rfl (hb hby at_353)
    have V191 : Arv Z h191 b21 k21 .char (64 : Int32) [(.int (nar .char (65 : Int32))), (.int (nar .char (98 : Int32))), (.int (nar .char (90 : Int32))), (.int (nar .char (122 : Int32))), (.int (nar .char (48 : Int32))), (.int (nar .char (57 : Int32))), (.int (nar .char (45 : Int32))), (.int (nar .char (95 : Int32))), (.int (nar .char (65 : Int32))), (.int (nar .char (98 : Int32))), (.int (nar .char (90 : Int32))), (.int (nar .char (122 : Int32))), (.int (nar .char (48 : Int32))), (.int (nar .char (57 : Int32))), (.int (nar .char (45 : Int32))), (.int (nar .char (95 : Int32))), (.int (nar .char (65 : Int32))), (.int (nar .char (98 : Int32))), (.int (nar .char (90 : Int32))), (.int (nar .char (122 : Int32))), (.int (nar .char (48 : Int32))), (.int (nar .char (57 : Int32))), (.int (nar .char (45 : Int32))), (.int (nar .char (95 : Int32))), (.int (nar .char (65 : Int32))), (.int (nar .char (98 : Int32))), (.int (nar .char (90 : Int32))), (.int (nar .char (122 : Int32))), (.int (nar .char (48 : Int32))), (.int (nar .char (57 : Int32))), (.int (nar .char (45 : Int32))), (.int (nar .char (95 : Int32))), (.int (nar .char (65 : Int32))), (.int (nar .char (98 : Int32))), (.int (nar .char (90 : Int32))), (.int (nar .char (122 : Int32))), (.int (nar .char (48 : Int32))), (.int (nar .char (57 : Int32))), (.int (nar .char (45 : Int32))), (.int (nar .char (95 : Int32))), (.int (nar .char (65 : Int32))), (.int (nar .char (98 : Int32))), (.int (nar .char (90 : Int32))), (.int (nar .char (122 : Int32))), (.int (nar .char (48 : Int32))), (.int (nar .char (57 : Int32))), (.int (nar .char (45 : Int32))), (.int (nar .char (95 : Int32))), (.int (nar .char (65 : Int32))), (.int (nar .char (98 : Int32))), (.int (nar .char (90 : Int32))), (.int (nar .char (122 : Int32))), (.int (nar .char (48 : Int32))), (.int (nar .char (57 : Int32))), (.int 0), (.int 0), (.int 0), (.int 0), (.int 0), (.int 0), (.int 0), (.int 0), (.int 0), (.int 0)] (.int 0) := Arv.set Ar191 q191 S191 Nn191 Ha191 G191 (fits_nar_char _) W191 53 rfl (Nat.le_of_ble_eq_true rfl)
    have c192 : SS p e below S0 (T191.setTop (mkF m 354 #[vi p0, vi pk, vr uk, .unset, .unset, .unset, .unset, .unset] [(.ref b21)])) := c190.trans (st191 _ (Steps.refl _))
    have N191 := Fr.snoc X191 N188 (Nat.le_trans Z0 ge23)
    have z191 : n0 ≤ h191.size := Nat.le_trans z188 (Keep.of_wr W191).1
    have K191 := K188.wr W191 (Or.inr ge23)
    have c193 : SS p e below S0 (T191.setTop (mkF m 359 #[vi p0, vi pk, vr uk, .unset, .unset, .unset, .unset, .unset] [(.int 45), (.int 54), (.ref b21), (.ref b21)])) := c192.trans (by
      show SS p e below (T191.setTop (mkF m 354 #[vi p0, vi pk, vr uk, .unset, .unset, .unset, .unset, .unset] [(.ref b21)])) _
      refine XS.dup X191.here hx rfl (hb hby at_354) rfl rfl ?_
      refine XS.bipush X191.here hx rfl (hb hby at_355) ?_
      refine XS.bipush X191.here hx rfl (hb hby at_357) ?_
      exact Steps.refl _)
    obtain ⟨cl194, Ar194, q194, S194, Nn194, Ha194, G194⟩ := id V191
    obtain ⟨T194, h194, X194, e194, W194, st194⟩ := stC X191 hx hZ e191 Ar194 (j := (54 : Int32)) (inb_of S194 ⟨by decide, by decide⟩) (g := (mkF m 359 #[vi p0, vi pk, vr uk, .unset, .unset, .unset, .unset, .unset] [(.int 45), (.int 54), (.ref b21), (.ref b21)])) rfl rfl (hb hby at_359)
    have V194 : Arv Z h194 b21 k21 .char (64 : Int32) [(.int (nar .char (65 : Int32))), (.int (nar .char (98 : Int32))), (.int (nar .char (90 : Int32))), (.int (nar .char (122 : Int32))), (.int (nar .char (48 : Int32))), (.int (nar .char (57 : Int32))), (.int (nar .char (45 : Int32))), (.int (nar .char (95 : Int32))), (.int (nar .char (65 : Int32))), (.int (nar .char (98 : Int32))), (.int (nar .char (90 : Int32))), (.int (nar .char (122 : Int32))), (.int (nar .char (48 : Int32))), (.int (nar .char (57 : Int32))), (.int (nar .char (45 : Int32))), (.int (nar .char (95 : Int32))), (.int (nar .char (65 : Int32))), (.int (nar .char (98 : Int32))), (.int (nar .char (90 : Int32))), (.int (nar .char (122 : Int32))), (.int (nar .char (48 : Int32))), (.int (nar .char (57 : Int32))), (.int (nar .char (45 : Int32))), (.int (nar .char (95 : Int32))), (.int (nar .char (65 : Int32))), (.int (nar .char (98 : Int32))), (.int (nar .char (90 : Int32))), (.int (nar .char (122 : Int32))), (.int (nar .char (48 : Int32))), (.int (nar .char (57 : Int32))), (.int (nar .char (45 : Int32))), (.int (nar .char (95 : Int32))), (.int (nar .char (65 : Int32))), (.int (nar .char (98 : Int32))), (.int (nar .char (90 : Int32))), (.int (nar .char (122 : Int32))), (.int (nar .char (48 : Int32))), (.int (nar .char (57 : Int32))), (.int (nar .char (45 : Int32))), (.int (nar .char (95 : Int32))), (.int (nar .char (65 : Int32))), (.int (nar .char (98 : Int32))), (.int (nar .char (90 : Int32))), (.int (nar .char (122 : Int32))), (.int (nar .char (48 : Int32))), (.int (nar .char (57 : Int32))), (.int (nar .char (45 : Int32))), (.int (nar .char (95 : Int32))), (.int (nar .char (65 : Int32))), (.int (nar .char (98 : Int32))), (.int (nar .char (90 : Int32))), (.int (nar .char (122 : Int32))), (.int (nar .char (48 : Int32))), (.int (nar .char (57 : Int32))), (.int (nar .char (45 : Int32))), (.int 0), (.int 0), (.int 0), (.int 0), (.int 0), (.int 0), (.int 0), (.int 0), (.int 0)] (.int 0) := Arv.set Ar194 q194 S194 Nn194 Ha194 G194 (fits_nar_char _) W194 54 rfl (Nat.le_of_ble_eq_true rfl)
    have c195 : SS p e below S0 (T194.setTop (mkF m 360 #[vi p0, vi pk, vr uk, .unset, .unset, .unset, .unset, .unset] [(.ref b21)])) := c193.trans (st194 _ (Steps.refl _))
    have N194 := Fr.snoc X194 N191 (Nat.le_trans Z0 ge23)
    have z194 : n0 ≤ h194.size := Nat.le_trans z191 (Keep.of_wr W194).1
    have K194 := K191.wr W194 (Or.inr ge23)
    have c196 : SS p e below S0 (T194.setTop (mkF m 365 #[vi p0, vi pk, vr uk, .unset, .unset, .unset, .unset, .unset] [(.int 95), (.int 55), (.ref b21), (.ref b21)])) := c195.trans (by
      show SS p e below (T194.setTop (mkF m 360 #[vi p0, vi pk, vr uk, .unset, .unset, .unset, .unset, .unset] [(.ref b21)])) _
      refine XS.dup X194.here hx rfl (hb hby at_360) rfl rfl ?_
      refine XS.bipush X194.here hx rfl (hb hby at_361) ?_
      refine XS.bipush X194.here hx rfl (hb hby at_363) ?_
      exact Steps.refl _)
    obtain ⟨cl197, Ar197, q197, S197, Nn197, Ha197, G197⟩ := id V194
    obtain ⟨T197, h197, X197, e197, W197, st197⟩ := stC X194 hx hZ e194 Ar197 (j := (55 : Int32)) (inb_of S197 ⟨by decide, by decide⟩) (g := (mkF m 365 #[vi p0, vi pk, vr uk, .unset, .unset, .unset, .unset, .unset] [(.int 95), (.int 55), (.ref b21), (.ref b21)])) rfl rfl (hb hby at_365)
    have V197 : Arv Z h197 b21 k21 .char (64 : Int32) [(.int (nar .char (65 : Int32))), (.int (nar .char (98 : Int32))), (.int (nar .char (90 : Int32))), (.int (nar .char (122 : Int32))), (.int (nar .char (48 : Int32))), (.int (nar .char (57 : Int32))), (.int (nar .char (45 : Int32))), (.int (nar .char (95 : Int32))), (.int (nar .char (65 : Int32))), (.int (nar .char (98 : Int32))), (.int (nar .char (90 : Int32))), (.int (nar .char (122 : Int32))), (.int (nar .char (48 : Int32))), (.int (nar .char (57 : Int32))), (.int (nar .char (45 : Int32))), (.int (nar .char (95 : Int32))), (.int (nar .char (65 : Int32))), (.int (nar .char (98 : Int32))), (.int (nar .char (90 : Int32))), (.int (nar .char (122 : Int32))), (.int (nar .char (48 : Int32))), (.int (nar .char (57 : Int32))), (.int (nar .char (45 : Int32))), (.int (nar .char (95 : Int32))), (.int (nar .char (65 : Int32))), (.int (nar .char (98 : Int32))), (.int (nar .char (90 : Int32))), (.int (nar .char (122 : Int32))), (.int (nar .char (48 : Int32))), (.int (nar .char (57 : Int32))), (.int (nar .char (45 : Int32))), (.int (nar .char (95 : Int32))), (.int (nar .char (65 : Int32))), (.int (nar .char (98 : Int32))), (.int (nar .char (90 : Int32))), (.int (nar .char (122 : Int32))), (.int (nar .char (48 : Int32))), (.int (nar .char (57 : Int32))), (.int (nar .char (45 : Int32))), (.int (nar .char (95 : Int32))), (.int (nar .char (65 : Int32))), (.int (nar .char (98 : Int32))), (.int (nar .char (90 : Int32))), (.int (nar .char (122 : Int32))), (.int (nar .char (48 : Int32))), (.int (nar .char (57 : Int32))), (.int (nar .char (45 : Int32))), (.int (nar .char (95 : Int32))), (.int (nar .char (65 : Int32))), (.int (nar .char (98 : Int32))), (.int (nar .char (90 : Int32))), (.int (nar .char (122 : Int32))), (.int (nar .char (48 : Int32))), (.int (nar .char (57 : Int32))), (.int (nar .char (45 : Int32))), (.int (nar .char (95 : Int32))), (.int 0), (.int 0), (.int 0), (.int 0), (.int 0), (.int 0), (.int 0), (.int 0)] (.int 0) := Arv.set Ar197 q197 S197 Nn197 Ha197 G197 (fits_nar_char _) W197 55 rfl (Nat.le_of_ble_eq_true rfl)
    have c198 : SS p e below S0 (T197.setTop (mkF m 366 #[vi p0, vi pk, vr uk, .unset, .unset, .unset, .unset, .unset] [(.ref b21)])) := c196.trans (st197 _ (Steps.refl _))
    have N197 := Fr.snoc X197 N194 (Nat.le_trans Z0 ge23)
    have z197 : n0 ≤ h197.size := Nat.le_trans z194 (Keep.of_wr W197).1
    have K197 := K194.wr W197 (Or.inr ge23)
    exact ⟨T197, _, _, N197, X197, e197, K197, z197, ((((((((O149.wr W176 (Nat.le_trans Z0 ge23)).wr W179 (Nat.le_trans Z0 ge23)).wr W182 (Nat.le_trans Z0 ge23)).wr W185 (Nat.le_trans Z0 ge23)).wr W188 (Nat.le_trans Z0 ge23)).wr W191 (Nat.le_trans Z0 ge23)).wr W194 (Nat.le_trans Z0 ge23)).wr W197 (Nat.le_trans Z0 ge23)), V197, c198⟩
  obtain ⟨T199, h199, l199, N199, X199, e199, K199, z199, O199, V199_b21, c199⟩ : ∃ (T : State) (h : Heap) (locs : List Loc), Fr n0 locs ∧ Stand p l e room_1 s m #[(.int p0)] below meth c T locs 1 64 ∧ T.heap = h ∧ Keep h0 h [] ∧ n0 ≤ h.size ∧ Old Z n0 h ∧ Arv Z h b21 k21 .char (64 : Int32) [(.int (nar .char (65 : Int32))), (.int (nar .char (98 : Int32))), (.int (nar .char (90 : Int32))), (.int (nar .char (122 : Int32))), (.int (nar .char (48 : Int32))), (.int (nar .char (57 : Int32))), (.int (nar .char (45 : Int32))), (.int (nar .char (95 : Int32))), (.int (nar .char (65 : Int32))), (.int (nar .char (98 : Int32))), (.int (nar .char (90 : Int32))), (.int (nar .char (122 : Int32))), (.int (nar .char (48 : Int32))), (.int (nar .char (57 : Int32))), (.int (nar .char (45 : Int32))), (.int (nar .char (95 : Int32))), (.int (nar .char (65 : Int32))), (.int (nar .char (98 : Int32))), (.int (nar .char (90 : Int32))), (.int (nar .char (122 : Int32))), (.int (nar .char (48 : Int32))), (.int (nar .char (57 : Int32))), (.int (nar .char (45 : Int32))), (.int (nar .char (95 : Int32))), (.int (nar .char (65 : Int32))), (.int (nar .char (98 : Int32))), (.int (nar .char (90 : Int32))), (.int (nar .char (122 : Int32))), (.int (nar .char (48 : Int32))), (.int (nar .char (57 : Int32))), (.int (nar .char (45 : Int32))), (.int (nar .char (95 : Int32))), (.int (nar .char (65 : Int32))), (.int (nar .char (98 : Int32))), (.int (nar .char (90 : Int32))), (.int (nar .char (122 : Int32))), (.int (nar .char (48 : Int32))), (.int (nar .char (57 : Int32))), (.int (nar .char (45 : Int32))), (.int (nar .char (95 : Int32))), (.int (nar .char (65 : Int32))), (.int (nar .char (98 : Int32))), (.int (nar .char (90 : Int32))), (.int (nar .char (122 : Int32))), (.int (nar .char (48 : Int32))), (.int (nar .char (57 : Int32))), (.int (nar .char (45 : Int32))), (.int (nar .char (95 : Int32))), (.int (nar .char (65 : Int32))), (.int (nar .char (98 : Int32))), (.int (nar .char (90 : Int32))), (.int (nar .char (122 : Int32))), (.int (nar .char (48 : Int32))), (.int (nar .char (57 : Int32))), (.int (nar .char (45 : Int32))), (.int (nar .char (95 : Int32))), (.int (nar .char (65 : Int32))), (.int (nar .char (98 : Int32))), (.int (nar .char (90 : Int32))), (.int (nar .char (122 : Int32))), (.int (nar .char (48 : Int32))), (.int (nar .char (57 : Int32))), (.int (nar .char (45 : Int32))), (.int (nar .char (95 : Int32)))] (.int 0) ∧ SS p e below S0 (T.setTop (mkF m 414 #[vi p0, vi pk, vr uk, .unset, .unset, .unset, .unset, .unset] [(.ref b21)])) := by
    have c200 : SS p e below S0 (T174.setTop (mkF m 371 #[vi p0, vi pk, vr uk, .unset, .unset, .unset, .unset, .unset] [(.int 65), (.int 56), (.ref b21), (.ref b21)])) := c174.trans (by
      show SS p e below (T174.setTop (mkF m 366 #[vi p0, vi pk, vr uk, .unset, .unset, .unset, .unset, .unset] [(.ref b21)])) _
      refine XS.dup X174.here hx rfl (hb hby at_366) rfl rfl ?_
      refine XS.bipush X174.here hx rfl (hb hby at_367) ?_
      refine XS.bipush X174.here hx rfl (hb hby at_369) ?_
      exact Steps.refl _)
    obtain ⟨cl201, Ar201, q201, S201, Nn201, Ha201, G201⟩ := id V174_b21
    obtain ⟨T201, h201, X201, e201, W201, st201⟩ := stC X174 hx hZ e174 Ar201 (j := (56 : Int32)) (inb_of S201 ⟨by decide, by decide⟩) (g := (mkF m 371 #[vi p0, vi pk, vr uk, .unset, .unset, .unset, .unset, .unset] [(.int 65), (.int 56), (.ref b21), (.ref b21)])) rfl rfl (hb hby at_371)
    have V201 : Arv Z h201 b21 k21 .char (64 : Int32) [(.int (nar .char (65 : Int32))), (.int (nar .char (98 : Int32))), (.int (nar .char (90 : Int32))), (.int (nar .char (122 : Int32))), (.int (nar .char (48 : Int32))), (.int (nar .char (57 : Int32))), (.int (nar .char (45 : Int32))), (.int (nar .char (95 : Int32))), (.int (nar .char (65 : Int32))), (.int (nar .char (98 : Int32))), (.int (nar .char (90 : Int32))), (.int (nar .char (122 : Int32))), (.int (nar .char (48 : Int32))), (.int (nar .char (57 : Int32))), (.int (nar .char (45 : Int32))), (.int (nar .char (95 : Int32))), (.int (nar .char (65 : Int32))), (.int (nar .char (98 : Int32))), (.int (nar .char (90 : Int32))), (.int (nar .char (122 : Int32))), (.int (nar .char (48 : Int32))), (.int (nar .char (57 : Int32))), (.int (nar .char (45 : Int32))), (.int (nar .char (95 : Int32))), (.int (nar .char (65 : Int32))), (.int (nar .char (98 : Int32))), (.int (nar .char (90 : Int32))), (.int (nar .char (122 : Int32))), (.int (nar .char (48 : Int32))), (.int (nar .char (57 : Int32))), (.int (nar .char (45 : Int32))), (.int (nar .char (95 : Int32))), (.int (nar .char (65 : Int32))), (.int (nar .char (98 : Int32))), (.int (nar .char (90 : Int32))), (.int (nar .char (122 : Int32))), (.int (nar .char (48 : Int32))), (.int (nar .char (57 : Int32))), (.int (nar .char (45 : Int32))), (.int (nar .char (95 : Int32))), (.int (nar .char (65 : Int32))), (.int (nar .char (98 : Int32))), (.int (nar .char (90 : Int32))), (.int (nar .char (122 : Int32))), (.int (nar .char (48 : Int32))), (.int (nar .char (57 : Int32))), (.int (nar .char (45 : Int32))), (.int (nar .char (95 : Int32))), (.int (nar .char (65 : Int32))), (.int (nar .char (98 : Int32))), (.int (nar .char (90 : Int32))), (.int (nar .char (122 : Int32))), (.int (nar .char (48 : Int32))), (.int (nar .char (57 : Int32))), (.int (nar .char (45 : Int32))), (.int (nar .char (95 : Int32))), (.int (nar .char (65 : Int32))), (.int 0), (.int 0), (.int 0), (.int 0), (.int 0), (.int 0), (.int 0)] (.int 0) := Arv.set Ar201 q201 S201 Nn201 Ha201 G201 (fits_nar_char _) W201 56 rfl (Nat.le_of_ble_eq_true rfl)
    have c202 : SS p e below S0 (T201.setTop (mkF m 372 #[vi p0, vi pk, vr uk, .unset, .unset, .unset, .unset, .unset] [(.ref b21)])) := c200.trans (st201 _ (Steps.refl _))
    have N201 := Fr.snoc X201 N174 (Nat.le_trans Z0 ge23)
    have z201 : n0 ≤ h201.size := Nat.le_trans z174 (Keep.of_wr W201).1
    have K201 := K174.wr W201 (Or.inr ge23)
    have c203 : SS p e below S0 (T201.setTop (mkF m 377 #[vi p0, vi pk, vr uk, .unset, .unset, .unset, .unset, .unset] [(.int 98), (.int 57), (.ref b21), (.ref b21)])) := c202.trans (by
      show SS p e below (T201.setTop (mkF m 372 #[vi p0, vi pk, vr uk, .unset, .unset, .unset, .unset, .unset] [(.ref b21)])) _
      refine XS.dup X201.here hx rfl (hb hby at_372) rfl rfl ?_
      refine XS.bipush X201.here hx rfl (hb hby at_373) ?_
      refine XS.bipush X201.here hx rfl (hb hby at_375) ?_
      exact Steps.refl _)
    obtain ⟨cl204, Ar204, q204, S204, Nn204, Ha204, G204⟩ := id V201
    obtain ⟨T204, h204, X204, e204, W204, st204⟩ := stC X201 hx hZ e201 Ar204 (j := (57 : Int32)) (inb_of S204 ⟨by decide, by decide⟩) (g := (mkF m 377 #[vi p0, vi pk, vr uk, .unset, .unset, .unset, .unset, .unset] [(.int 98), (.int 57), (.ref b21), (.ref b21)])) rfl rfl (hb hby at_377)
    have V204 : Arv Z h204 b21 k21 .char (64 : Int32) [(.int (nar .char (65 : Int32))), (.int (nar .char (98 : Int32))), (.int (nar .char (90 : Int32))), (.int (nar .char (122 : Int32))), (.int (nar .char (48 : Int32))), (.int (nar .char (57 : Int32))), (.int (nar .char (45 : Int32))), (.int (nar .char (95 : Int32))), (.int (nar .char (65 : Int32))), (.int (nar .char (98 : Int32))), (.int (nar .char (90 : Int32))), (.int (nar .char (122 : Int32))), (.int (nar .char (48 : Int32))), (.int (nar .char (57 : Int32))), (.int (nar .char (45 : Int32))), (.int (nar .char (95 : Int32))), (.int (nar .char (65 : Int32))), (.int (nar .char (98 : Int32))), (.int (nar .char (90 : Int32))), (.int (nar .char (122 : Int32))), (.int (nar .char (48 : Int32))), (.int (nar .char (57 : Int32))), (.int (nar .char (45 : Int32))), (.int (nar .char (95 : Int32))), (.int (nar .char (65 : Int32))), (.int (nar .char (98 : Int32))), (.int (nar .char (90 : Int32))), (.int (nar .char (122 : Int32))), (.int (nar .char (48 : Int32))), (.int (nar .char (57 : Int32))), (.int (nar .char (45 : Int32))), (.int (nar .char (95 : Int32))), (.int (nar .char (65 : Int32))), (.int (nar .char (98 : Int32))), (.int (nar .char (90 : Int32))), (.int (nar .char (122 : Int32))), (.int (nar .char (48 : Int32))), (.int (nar .char (57 : Int32))), (.int (nar .char (45 : Int32))), (.int (nar .char (95 : Int32))), (.int (nar .char (65 : Int32))), (.int (nar .char (98 : Int32))), (.int (nar .char (90 : Int32))), (.int (nar .char (122 : Int32))), (.int (nar .char (48 : Int32))), (.int (nar .char (57 : Int32))), (.int (nar .char (45 : Int32))), (.int (nar .char (95 : Int32))), (.int (nar .char (65 : Int32))), (.int (nar .char (98 : Int32))), (.int (nar .char (90 : Int32))), (.int (nar .char (122 : Int32))), (.int (nar .char (48 : Int32))), (.int (nar .char (57 : Int32))), (.int (nar .char (45 : Int32))), (.int (nar .char (95 : Int32))), (.int (nar .char (65 : Int32))), (.int (nar .char (98 : Int32))), (.int 0), (.int 0), (.int 0), (.int 0), (.int 0), (.int 0)] (.int 0) := Arv.set Ar204 q204 S204 Nn204 Ha204 G204 (fits_nar_char _) W204 57 rfl (Nat.le_of_ble_eq_true rfl)
    have c205 : SS p e below S0 (T204.setTop (mkF m 378 #[vi p0, vi pk, vr uk, .unset, .unset, .unset, .unset, .unset] [(.ref b21)])) := c203.trans (st204 _ (Steps.refl _))
    have N204 := Fr.snoc X204 N201 (Nat.le_trans Z0 ge23)
    have z204 : n0 ≤ h204.size := Nat.le_trans z201 (Keep.of_wr W204).1
    have K204 := K201.wr W204 (Or.inr ge23)
    have c206 : SS p e below S0 (T204.setTop (mkF m 383 #[vi p0, vi pk, vr uk, .unset, .unset, .unset, .unset, .unset] [(.int 90), (.int 58), (.ref b21), (.ref b21)])) := c205.trans (by
      show SS p e below (T204.setTop (mkF m 378 #[vi p0, vi pk, vr uk, .unset, .unset, .unset, .unset, .unset] [(.ref b21)])) _
      refine XS.dup X204.here hx rfl (hb hby at_378) rfl rfl ?_
      refine XS.bipush X204.here hx rfl (hb hby at_379) ?_
      refine XS.bipush X204.here hx rfl (hb hby at_381) ?_
      exact Steps.refl _)
    obtain ⟨cl207, Ar207, q207, S207, Nn207, Ha207, G207⟩ := id V204
    obtain ⟨T207, h207, X207, e207, W207, st207⟩ := stC X204 hx hZ e204 Ar207 (j := (58 : Int32)) (inb_of S207 ⟨by decide, by decide⟩) (g := (mkF m 383 #[vi p0, vi pk, vr uk, .unset, .unset, .unset, .unset, .unset] [(.int 90), (.int 58), (.ref b21), (.ref b21)])) rfl rfl (hb hby at_383)
    have V207 : Arv Z h207 b21 k21 .char (64 : Int32) [(.int (nar .char (65 : Int32))), (.int (nar .char (98 : Int32))), (.int (nar .char (90 : Int32))), (.int (nar .char (122 : Int32))), (.int (nar .char (48 : Int32))), (.int (nar .char (57 : Int32))), (.int (nar .char (45 : Int32))), (.int (nar .char (95 : Int32))), (.int (nar .char (65 : Int32))), (.int (nar .char (98 : Int32))), (.int (nar .char (90 : Int32))), (.int (nar .char (122 : Int32))), (.int (nar .char (48 : Int32))), (.int (nar .char (57 : Int32))), (.int (nar .char (45 : Int32))), (.int (nar .char (95 : Int32))), (.int (nar .char (65 : Int32))), (.int (nar .char (98 : Int32))), (.int (nar .char (90 : Int32))), (.int (nar .char (122 : Int32))), (.int (nar .char (48 : Int32))), (.int (nar .char (57 : Int32))), (.int (nar .char (45 : Int32))), (.int (nar .char (95 : Int32))), (.int (nar .char (65 : Int32))), (.int (nar .char (98 : Int32))), (.int (nar .char (90 : Int32))), (.int (nar .char (122 : Int32))), (.int (nar .char (48 : Int32))), (.int (nar .char (57 : Int32))), (.int (nar .char (45 : Int32))), (.int (nar .char (95 : Int32))), (.int (nar .char (65 : Int32))), (.int (nar .char (98 : Int32))), (.int (nar .char (90 : Int32))), (.int (nar .char (122 : Int32))), (.int (nar .char (48 : Int32))), (.int (nar .char (57 : Int32))), (.int (nar .char (45 : Int32))), (.int (nar .char (95 : Int32))), (.int (nar .char (65 : Int32))), (.int (nar .char (98 : Int32))), (.int (nar .char (90 : Int32))), (.int (nar .char (122 : Int32))), (.int (nar .char (48 : Int32))), (.int (nar .char (57 : Int32))), (.int (nar .char (45 : Int32))), (.int (nar .char (95 : Int32))), (.int (nar .char (65 : Int32))), (.int (nar .char (98 : Int32))), (.int (nar .char (90 : Int32))), (.int (nar .char (122 : Int32))), (.int (nar .char (48 : Int32))), (.int (nar .char (57 : Int32))), (.int (nar .char (45 : Int32))), (.int (nar .char (95 : Int32))), (.int (nar .char (65 : Int32))), (.int (nar .char (98 : Int32))), (.int (nar .char (90 : Int32))), (.int 0), (.int 0), (.int 0), (.int 0), (.int 0)] (.int 0) := Arv.set Ar207 q207 S207 Nn207 Ha207 G207 (fits_nar_char _) W207 58 rfl (Nat.le_of_ble_eq_true rfl)
    have c208 : SS p e below S0 (T207.setTop (mkF m 384 #[vi p0, vi pk, vr uk, .unset, .unset, .unset, .unset, .unset] [(.ref b21)])) := c206.trans (st207 _ (Steps.refl _))
    have N207 := Fr.snoc X207 N204 (Nat.le_trans Z0 ge23)
    have z207 : n0 ≤ h207.size := Nat.le_trans z204 (Keep.of_wr W207).1
    have K207 := K204.wr W207 (Or.inr ge23)
    have c209 : SS p e below S0 (T207.setTop (mkF m 389 #[vi p0, vi pk, vr uk, .unset, .unset, .unset, .unset, .unset] [(.int 122), (.int 59), (.ref b21), (.ref b21)])) := c208.trans (by
      show SS p e below (T207.setTop (mkF m 384 #[vi p0, vi pk, vr uk, .unset, .unset, .unset, .unset, .unset] [(.ref b21)])) _
      refine XS.dup X207.here hx rfl (hb hby at_384) rfl rfl ?_
      refine XS.bipush X207.here hx rfl (hb hby at_385) ?_
      refine XS.bipush X207.here hx rfl (hb hby at_387) ?_
      exact Steps.refl _)
    obtain ⟨cl210, Ar210, q210, S210, Nn210, Ha210, G210⟩ := id V207
    obtain ⟨T210, h210, X210, e210, W210, st210⟩ := stC X207 hx hZ e207 Ar210 (j := (59 : Int32)) (inb_of S210 ⟨by decide, by decide⟩) (g := (mkF m 389 #[vi p0, vi pk, vr uk, .unset, .unset, .unset, .unset, .unset] [(.int 122), (.int 59), (.ref b21), (.ref b21)])) rfl rfl (hb hby at_389)
    have V210 : Arv Z h210 b21 k21 .char (64 : Int32) [(.int (nar .char (65 : Int32))), (.int (nar .char (98 : Int32))), (.int (nar .char (90 : Int32))), (.int (nar .char (122 : Int32))), (.int (nar .char (48 : Int32))), (.int (nar .char (57 : Int32))), (.int (nar .char (45 : Int32))), (.int (nar .char (95 : Int32))), (.int (nar .char (65 : Int32))), (.int (nar .char (98 : Int32))), (.int (nar .char (90 : Int32))), (.int (nar .char (122 : Int32))), (.int (nar .char (48 : Int32))), (.int (nar .char (57 : Int32))), (.int (nar .char (45 : Int32))), (.int (nar .char (95 : Int32))), (.int (nar .char (65 : Int32))), (.int (nar .char (98 : Int32))), (.int (nar .char (90 : Int32))), (.int (nar .char (122 : Int32))), (.int (nar .char (48 : Int32))), (.int (nar .char (57 : Int32))), (.int (nar .char (45 : Int32))), (.int (nar .char (95 : Int32))), (.int (nar .char (65 : Int32))), (.int (nar .char (98 : Int32))), (.int (nar .char (90 : Int32))), (.int (nar .char (122 : Int32))), (.int (nar .char (48 : Int32))), (.int (nar .char (57 : Int32))), (.int (nar .char (45 : Int32))), (.int (nar .char (95 : Int32))), (.int (nar .char (65 : Int32))), (.int (nar .char (98 : Int32))), (.int (nar .char (90 : Int32))), (.int (nar .char (122 : Int32))), (.int (nar .char (48 : Int32))), (.int (nar .char (57 : Int32))), (.int (nar .char (45 : Int32))), (.int (nar .char (95 : Int32))), (.int (nar .char (65 : Int32))), (.int (nar .char (98 : Int32))), (.int (nar .char (90 : Int32))), (.int (nar .char (122 : Int32))), (.int (nar .char (48 : Int32))), (.int (nar .char (57 : Int32))), (.int (nar .char (45 : Int32))), (.int (nar .char (95 : Int32))), (.int (nar .char (65 : Int32))), (.int (nar .char (98 : Int32))), (.int (nar .char (90 : Int32))), (.int (nar .char (122 : Int32))), (.int (nar .char (48 : Int32))), (.int (nar .char (57 : Int32))), (.int (nar .char (45 : Int32))), (.int (nar .char (95 : Int32))), (.int (nar .char (65 : Int32))), (.int (nar .char (98 : Int32))), (.int (nar .char (90 : Int32))), (.int (nar .char (122 : Int32))), (.int 0), (.int 0), (.int 0), (.int 0)] (.int 0) := Arv.set Ar210 q210 S210 Nn210 Ha210 G210 (fits_nar_char _) W210 59 rfl (Nat.le_of_ble_eq_true rfl)
    have c211 : SS p e below S0 (T210.setTop (mkF m 390 #[vi p0, vi pk, vr uk, .unset, .unset, .unset, .unset, .unset] [(.ref b21)])) := c209.trans (st210 _ (Steps.refl _))
    have N210 := Fr.snoc X210 N207 (Nat.le_trans Z0 ge23)
    have z210 : n0 ≤ h210.size := Nat.le_trans z207 (Keep.of_wr W210).1
    have K210 := K207.wr W210 (Or.inr ge23)
    have c212 : SS p e below S0 (T210.setTop (mkF m 395 #[vi p0, vi pk, vr uk, .unset, .unset, .unset, .unset, .unset] [(.int 48), (.int 60), (.ref b21), (.ref b21)])) := c211.trans (by
      show SS p e below (T210.setTop (mkF m 390 #[vi p0, vi pk, vr uk, .unset, .unset, .unset, .unset, .unset] [(.ref b21)])) _
      refine XS.dup X210.here hx rfl (hb hby at_390) rfl rfl ?_
      refine XS.bipush X210.here hx rfl (hb hby at_391) ?_
      refine XS.bipush X210.here hx rfl (hb hby at_393) ?_
      exact Steps.refl _)
    obtain ⟨cl213, Ar213, q213, S213, Nn213, Ha213, G213⟩ := id V210
    obtain ⟨T213, h213, X213, e213, W213, st213⟩ := stC X210 hx hZ e210 Ar213 (j := (60 : Int32)) (inb_of S213 ⟨by decide, by decide⟩) (g := (mkF m 395 #[vi p0, vi pk, vr uk, .unset, .unset, .unset, .unset, .unset] [(.int 48), (.int 60), (.ref b21), (.ref b21)])) rfl rfl (hb hby at_395)
    have V213 : Arv Z h213 b21 k21 .char (64 : Int32) [(.int (nar .char (65 : Int32))), (.int (nar .char (98 : Int32))), (.int (nar .char (90 : Int32))), (.int (nar .char (122 : Int32))), (.int (nar .char (48 : Int32))), (.int (nar .char (57 : Int32))), (.int (nar .char (45 : Int32))), (.int (nar .char (95 : Int32))), (.int (nar .char (65 : Int32))), (.int (nar .char (98 : Int32))), (.int (nar .char (90 : Int32))), (.int (nar .char (122 : Int32))), (.int (nar .char (48 : Int32))), (.int (nar .char (57 : Int32))), (.int (nar .char (45 : Int32))), (.int (nar .char (95 : Int32))), (.int (nar .char (65 : Int32))), (.int (nar .char (98 : Int32))), (.int (nar .char (90 : Int32))), (.int (nar .char (122 : Int32))), (.int (nar .char (48 : Int32))), (.int (nar .char (57 : Int32))), (.int (nar .char (45 : Int32))), (.int (nar .char (95 : Int32))), (.int (nar .char (65 : Int32))), (.int (nar .char (98 : Int32))), (.int (nar .char (90 : Int32))), (.int (nar .char (122 : Int32))), (.int (nar .char (48 : Int32))), (.int (nar .char (57 : Int32))), (.int (nar .char (45 : Int32))), (.int (nar .char (95 : Int32))), (.int (nar .char (65 : Int32))), (.int (nar .char (98 : Int32))), (.int (nar .char (90 : Int32))), (.int (nar .char (122 : Int32))), (.int (nar .char (48 : Int32))), (.int (nar .char (57 : Int32))), (.int (nar .char (45 : Int32))), (.int (nar .char (95 : Int32))), (.int (nar .char (65 : Int32))), (.int (nar .char (98 : Int32))), (.int (nar .char (90 : Int32))), (.int (nar .char (122 : Int32))), (.int (nar .char (48 : Int32))), (.int (nar .char (57 : Int32))), (.int (nar .char (45 : Int32))), (.int (nar .char (95 : Int32))), (.int (nar .char (65 : Int32))), (.int (nar .char (98 : Int32))), (.int (nar .char (90 : Int32))), (.int (nar .char (122 : Int32))), (.int (nar .char (48 : Int32))), (.int (nar .char (57 : Int32))), (.int (nar .char (45 : Int32))), (.int (nar .char (95 : Int32))), (.int (nar .char (65 : Int32))), (.int (nar .char (98 : Int32))), (.int (nar .char (90 : Int32))), (.int (nar .char (122 : Int32))), (.int (nar .char (48 : Int32))), (.int 0), (.int 0), (.int 0)] (.int 0) := Arv.set Ar213 q213 S213 Nn213 Ha213 G213 (fits_nar_char _) W213 60 rfl (Nat.le_of_ble_eq_true rfl)
    have c214 : SS p e below S0 (T213.setTop (mkF m 396 #[vi p0, vi pk, vr uk, .unset, .unset, .unset, .unset, .unset] [(.ref b21)])) := c212.trans (st213 _ (Steps.refl _))
    have N213 := Fr.snoc X213 N210 (Nat.le_trans Z0 ge23)
    have z213 : n0 ≤ h213.size := Nat.le_trans z210 (Keep.of_wr W213).1
    have K213 := K210.wr W213 (Or.inr ge23)
    have c215 : SS p e below S0 (T213.setTop (mkF m 401 #[vi p0, vi pk, vr uk, .unset, .unset, .unset, .unset, .unset] [(.int 57), (.int 61), (.ref b21), (.ref b21)])) := c214.trans (by
      show SS p e below (T213.setTop (mkF m 396 #[vi p0, vi pk, vr uk, .unset, .unset, .unset, .unset, .unset] [(.ref b21)])) _
      refine XS.dup X213.here hx rfl (hb hby at_396) rfl rfl ?_
      refine XS.bipush X213.here hx rfl (hb hby at_397) ?_
      refine XS.bipush X213.here hx rfl (hb hby at_399) ?_
      exact Steps.refl _)
    obtain ⟨cl216, Ar216, q216, S216, Nn216, Ha216, G216⟩ := id V213
    obtain ⟨T216, h216, X216, e216, W216, st216⟩ := stC X213 hx hZ e213 Ar216 (j := (61 : Int32)) (inb_of S216 ⟨by decide, by decide⟩) (g := (mkF m 401 #[vi p0, vi pk, vr uk, .unset, .unset, .unset, .unset, .unset] [(.int 57), (.int 61), (.ref b21), (.ref b21)])) rfl rfl (hb hby at_401)
    have V216 : Arv Z h216 b21 k21 .char (64 : Int32) [(.int (nar .char (65 : Int32))), (.int (nar .char (98 : Int32))), (.int (nar .char (90 : Int32))), (.int (nar .char (122 : Int32))), (.int (nar .char (48 : Int32))), (.int (nar .char (57 : Int32))), (.int (nar .char (45 : Int32))), (.int (nar .char (95 : Int32))), (.int (nar .char (65 : Int32))), (.int (nar .char (98 : Int32))), (.int (nar .char (90 : Int32))), (.int (nar .char (122 : Int32))), (.int (nar .char (48 : Int32))), (.int (nar .char (57 : Int32))), (.int (nar .char (45 : Int32))), (.int (nar .char (95 : Int32))), (.int (nar .char (65 : Int32))), (.int (nar .char (98 : Int32))), (.int (nar .char (90 : Int32))), (.int (nar .char (122 : Int32))), (.int (nar .char (48 : Int32))), (.int (nar .char (57 : Int32))), (.int (nar .char (45 : Int32))), (.int (nar .char (95 : Int32))), (.int (nar .char (65 : Int32))), (.int (nar .char (98 : Int32))), (.int (nar .char (90 : Int32))), (.int (nar .char (122 : Int32))), (.int (nar .char (48 : Int32))), (.int (nar .char (57 : Int32))), (.int (nar .char (45 : Int32))), (.int (nar .char (95 : Int32))), (.int (nar .char (65 : Int32))), (.int (nar .char (98 : Int32))), (.int (nar .char (90 : Int32))), (.int (nar .char (122 : Int32))), (.int (nar .char (48 : Int32))), (.int (nar .char (57 : Int32))), (.int (nar .char (45 : Int32))), (.int (nar .char (95 : Int32))), (.int (nar .char (65 : Int32))), (.int (nar .char (98 : Int32))), (.int (nar .char (90 : Int32))), (.int (nar .char (122 : Int32))), (.int (nar .char (48 : Int32))), (.int (nar .char (57 : Int32))), (.int (nar .char (45 : Int32))), (.int (nar .char (95 : Int32))), (.int (nar .char (65 : Int32))), (.int (nar .char (98 : Int32))), (.int (nar .char (90 : Int32))), (.int (nar .char (122 : Int32))), (.int (nar .char (48 : Int32))), (.int (nar .char (57 : Int32))), (.int (nar .char (45 : Int32))), (.int (nar .char (95 : Int32))), (.int (nar .char (65 : Int32))), (.int (nar .char (98 : Int32))), (.int (nar .char (90 : Int32))), (.int (nar .char (122 : Int32))), (.int (nar .char (48 : Int32))), (.int (nar .char (57 : Int32))), (.int 0), (.int 0)] (.int 0) := Arv.set Ar216 q216 S216 Nn216 Ha216 G216 (fits_nar_char _) W216 61 rfl (Nat.le_of_ble_eq_true rfl)
    have c217 : SS p e below S0 (T216.setTop (mkF m 402 #[vi p0, vi pk, vr uk, .unset, .unset, .unset, .unset, .unset] [(.ref b21)])) := c215.trans (st216 _ (Steps.refl _))
    have N216 := Fr.snoc X216 N213 (Nat.le_trans Z0 ge23)
    have z216 : n0 ≤ h216.size := Nat.le_trans z213 (Keep.of_wr W216).1
    have K216 := K213.wr W216 (Or.inr ge23)
    have c218 : SS p e below S0 (T216.setTop (mkF m 407 #[vi p0, vi pk, vr uk, .unset, .unset, .unset, .unset, .unset] [(.int 45), (.int 62), (.ref b21), (.ref b21)])) := c217.trans (by
      show SS p e below (T216.setTop (mkF m 402 #[vi p0, vi pk, vr uk, .unset, .unset, .unset, .unset, .unset] [(.ref b21)])) _
      refine XS.dup X216.here hx rfl (hb hby at_402) rfl rfl ?_
      refine XS.bipush X216.here hx rfl (hb hby at_403) ?_
      refine XS.bipush X216.here hx rfl (hb hby at_405) ?_
      exact Steps.refl _)
    obtain ⟨cl219, Ar219, q219, S219, Nn219, Ha219, G219⟩ := id V216
    obtain ⟨T219, h219, X219, e219, W219, st219⟩ := stC X216 hx hZ e216 Ar219 (j := (62 : Int32)) (inb_of S219 ⟨by decide, by decide⟩) (g := (mkF m 407 #[vi p0, vi pk, vr uk, .unset, .unset, .unset, .unset, .unset] [(.int 45), (.int 62), (.ref b21), (.ref b21)])) rfl rfl (hb hby at_407)
    have V219 : Arv Z h219 b21 k21 .char (64 : Int32) [(.int (nar .char (65 : Int32))), (.int (nar .char (98 : Int32))), (.int (nar .char (90 : Int32))), (.int (nar .char (122 : Int32))), (.int (nar .char (48 : Int32))), (.int (nar .char (57 : Int32))), (.int (nar .char (45 : Int32))), (.int (nar .char (95 : Int32))), (.int (nar .char (65 : Int32))), (.int (nar .char (98 : Int32))), (.int (nar .char (90 : Int32))), (.int (nar .char (122 : Int32))), (.int (nar .char (48 : Int32))), (.int (nar .char (57 : Int32))), (.int (nar .char (45 : Int32))), (.int (nar .char (95 : Int32))), (.int (nar .char (65 : Int32))), (.int (nar .char (98 : Int32))), (.int (nar .char (90 : Int32))), (.int (nar .char (122 : Int32))), (.int (nar .char (48 : Int32))), (.int (nar .char (57 : Int32))), (.int (nar .char (45 : Int32))), (.int (nar .char (95 : Int32))), (.int (nar .char (65 : Int32))), (.int (nar .char (98 : Int32))), (.int (nar .char (90 : Int32))), (.int (nar .char (122 : Int32))), (.int (nar .char (48 : Int32))), (.int (nar .char (57 : Int32))), (.int (nar .char (45 : Int32))), (.int (nar .char (95 : Int32))), (.int (nar .char (65 : Int32))), (.int (nar .char (98 : Int32))), (.int (nar .char (90 : Int32))), (.int (nar .char (122 : Int32))), (.int (nar .char (48 : Int32))), (.int (nar .char (57 : Int32))), (.int (nar .char (45 : Int32))), (.int (nar .char (95 : Int32))), (.int (nar .char (65 : Int32))), (.int (nar .char (98 : Int32))), (.int (nar .char (90 : Int32))), (.int (nar .char (122 : Int32))), (.int (nar .char (48 : Int32))), (.int (nar .char (57 : Int32))), (.int (nar .char (45 : Int32))), (.int (nar .char (95 : Int32))), (.int (nar .char (65 : Int32))), (.int (nar .char (98 : Int32))), (.int (nar .char (90 : Int32))), (.int (nar .char (122 : Int32))), (.int (nar .char (48 : Int32))), (.int (nar .char (57 : Int32))), (.int (nar .char (45 : Int32))), (.int (nar .char (95 : Int32))), (.int (nar .char (65 : Int32))), (.int (nar .char (98 : Int32))), (.int (nar .char (90 : Int32))), (.int (nar .char (122 : Int32))), (.int (nar .char (48 : Int32))), (.int (nar .char (57 : Int32))), (.int (nar .char (45 : Int32))), (.int 0)] (.int 0) := Arv.set Ar219 q219 S219 Nn219 Ha219 G219 (fits_nar_char _) W219 62 rfl (Nat.le_of_ble_eq_true rfl)
    have c220 : SS p e below S0 (T219.setTop (mkF m 408 #[vi p0, vi pk, vr uk, .unset, .unset, .unset, .unset, .unset] [(.ref b21)])) := c218.trans (st219 _ (Steps.refl _))
    have N219 := Fr.snoc X219 N216 (Nat.le_trans Z0 ge23)
    have z219 : n0 ≤ h219.size := Nat.le_trans z216 (Keep.of_wr W219).1
    have K219 := K216.wr W219 (Or.inr ge23)
    have c221 : SS p e below S0 (T219.setTop (mkF m 413 #[vi p0, vi pk, vr uk, .unset, .unset, .unset, .unset, .unset] [(.int 95), (.int 63), (.ref b21), (.ref b21)])) := c220.trans (by
      show SS p e below (T219.setTop (mkF m 408 #[vi p0, vi pk, vr uk, .unset, .unset, .unset, .unset, .unset] [(.ref b21)])) _
      refine XS.dup X219.here hx rfl (hb hby at_408) rfl rfl ?_
      refine XS.bipush X219.here hx rfl (hb hby at_409) ?_
      refine XS.bipush X219.here hx rfl (hb hby at_411) ?_
      exact Steps.refl _)
    obtain ⟨cl222, Ar222, q222, S222, Nn222, Ha222, G222⟩ := id V219
    obtain ⟨T222, h222, X222, e222, W222, st222⟩ := stC X219 hx hZ e219 Ar222 (j := (63 : Int32)) (inb_of S222 ⟨by decide, by decide⟩) (g := (mkF m 413 #[vi p0, vi pk, vr uk, .unset, .unset, .unset, .unset, .unset] [(.int 95), (.int 63), (.ref b21), (.ref b21)])) rfl rfl (hb hby at_413)
    have V222 : Arv Z h222 b21 k21 .char (64 : Int32) [(.int (nar .char (65 : Int32))), (.int (nar .char (98 : Int32))), (.int (nar .char (90 : Int32))), (.int (nar .char (122 : Int32))), (.int (nar .char (48 : Int32))), (.int (nar .char (57 : Int32))), (.int (nar .char (45 : Int32))), (.int (nar .char (95 : Int32))), (.int (nar .char (65 : Int32))), (.int (nar .char (98 : Int32))), (.int (nar .char (90 : Int32))), (.int (nar .char (122 : Int32))), (.int (nar .char (48 : Int32))), (.int (nar .char (57 : Int32))), (.int (nar .char (45 : Int32))), (.int (nar .char (95 : Int32))), (.int (nar .char (65 : Int32))), (.int (nar .char (98 : Int32))), (.int (nar .char (90 : Int32))), (.int (nar .char (122 : Int32))), (.int (nar .char (48 : Int32))), (.int (nar .char (57 : Int32))), (.int (nar .char (45 : Int32))), (.int (nar .char (95 : Int32))), (.int (nar .char (65 : Int32))), (.int (nar .char (98 : Int32))), (.int (nar .char (90 : Int32))), (.int (nar .char (122 : Int32))), (.int (nar .char (48 : Int32))), (.int (nar .char (57 : Int32))), (.int (nar .char (45 : Int32))), (.int (nar .char (95 : Int32))), (.int (nar .char (65 : Int32))), (.int (nar .char (98 : Int32))), (.int (nar .char (90 : Int32))), (.int (nar .char (122 : Int32))), (.int (nar .char (48 : Int32))), (.int (nar .char (57 : Int32))), (.int (nar .char (45 : Int32))), (.int (nar .char (95 : Int32))), (.int (nar .char (65 : Int32))), (.int (nar .char (98 : Int32))), (.int (nar .char (90 : Int32))), (.int (nar .char (122 : Int32))), (.int (nar .char (48 : Int32))), (.int (nar .char (57 : Int32))), (.int (nar .char (45 : Int32))), (.int (nar .char (95 : Int32))), (.int (nar .char (65 : Int32))), (.int (nar .char (98 : Int32))), (.int (nar .char (90 : Int32))), (.int (nar .char (122 : Int32))), (.int (nar .char (48 : Int32))), (.int (nar .char (57 : Int32))), (.int (nar .char (45 : Int32))), (.int (nar .char (95 : Int32))), (.int (nar .char (65 : Int32))), (.int (nar .char (98 : Int32))), (.int (nar .char (90 : Int32))), (.int (nar .char (122 : Int32))), (.int (nar .char (48 : Int32))), (.int (nar .char (57 : Int32))), (.int (nar .char (45 : Int32))), (.int (nar .char (95 : Int32)))] (.int 0) := Arv.set Ar222 q222 S222 Nn222 Ha222 G222 (fits_nar_char _) W222 63 rfl (Nat.le_of_ble_eq_true rfl)
    have c223 : SS p e below S0 (T222.setTop (mkF m 414 #[vi p0, vi pk, vr uk, .unset, .unset, .unset, .unset, .unset] [(.ref b21)])) := c221.trans (st222 _ (Steps.refl _))
    have N222 := Fr.snoc X222 N219 (Nat.le_trans Z0 ge23)
    have z222 : n0 ≤ h222.size := Nat.le_trans z219 (Keep.of_wr W222).1
    have K222 := K219.wr W222 (Or.inr ge23)
    exact ⟨T222, _, _, N222, X222, e222, K222, z222, ((((((((O174.wr W201 (Nat.le_trans Z0 ge23)).wr W204 (Nat.le_trans Z0 ge23)).wr W207 (Nat.le_trans Z0 ge23)).wr W210 (Nat.le_trans Z0 ge23)).wr W213 (Nat.le_trans Z0 ge23)).wr W216 (Nat.le_trans Z0 ge23)).wr W219 (Nat.le_trans Z0 ge23)).wr W222 (Nat.le_trans Z0 ge23)), V222, c223⟩
  have c224 : SS p e below S0 (T199.setTop (mkF m 417 #[vi p0, vi pk, vr uk, vr b21, .unset, .unset, .unset, .unset] [(.int 65)])) := c199.trans (by
    show SS p e below (T199.setTop (mkF m 414 #[vi p0, vi pk, vr uk, .unset, .unset, .unset, .unset, .unset] [(.ref b21)])) _
    refine XS.astoreN X199.here hx rfl (hb hby at_414) rfl rfl (l' := #[vi p0, vi pk, vr uk, vr b21, .unset, .unset, .unset, .unset]) rfl ?_
    refine XS.bipush X199.here hx rfl (hb hby at_415) ?_
    exact Steps.refl _)
  obtain ⟨T225, h225, k225, X225, e225, E225, A225, st225⟩ := newP X199 hx hZ (ww hw 4 rfl) e199 (g := (mkF m 417 #[vi p0, vi pk, vr uk, vr b21, .unset, .unset, .unset, .unset] [(.int 65)])) rfl (hb hby at_417) rfl (by decide) (cap := 65) (by decide) (by decide) (by decide) (by decide)
  obtain ⟨b225, g225⟩ : ∃ z, z = h199.size := ⟨_, rfl⟩
  rw [← g225] at A225 st225
  have c226 : SS p e below S0 (T225.setTop (mkF m 419 #[vi p0, vi pk, vr uk, vr b21, .unset, .unset, .unset, .unset] [(.ref b225)])) := c224.trans (st225 _ (Steps.refl _))
  have z225 : n0 ≤ h225.size := Nat.le_trans z199 E225.1
  have K225 := K199.ext E225
  have V225 : Arv Z h225 b225 k225 .char (65 : Int32) [(.int 0), (.int 0), (.int 0), (.int 0), (.int 0), (.int 0), (.int 0), (.int 0), (.int 0), (.int 0), (.int 0), (.int 0), (.int 0), (.int 0), (.int 0), (.int 0), (.int 0), (.int 0), (.int 0), (.int 0), (.int 0), (.int 0), (.int 0), (.int 0), (.int 0), (.int 0), (.int 0), (.int 0), (.int 0), (.int 0), (.int 0), (.int 0), (.int 0), (.int 0), (.int 0), (.int 0), (.int 0), (.int 0), (.int 0), (.int 0), (.int 0), (.int 0), (.int 0), (.int 0), (.int 0), (.int 0), (.int 0), (.int 0), (.int 0), (.int 0), (.int 0), (.int 0), (.int 0), (.int 0), (.int 0), (.int 0), (.int 0), (.int 0), (.int 0), (.int 0), (.int 0), (.int 0), (.int 0), (.int 0), (.int 0)] (.int 0) := (Arv.new A225 (by decide)).pad (pad_rep [] (.int 0) 65)
  have lt_b225 : b225 < h225.size := V225.lt
  have ne227 : b21 ≠ b225 := (Nat.ne_of_lt (Nat.lt_of_lt_of_le V199_b21.lt (Nat.le_of_eq g225.symm)))
  have ge228 : h0.size ≤ b225 := (Nat.le_trans K199.1 (Nat.le_of_eq g225.symm))
  obtain ⟨T229, h229, l229, N229, X229, e229, K229, z229, O229, V229_b21, V229_b225, c229⟩ : ∃ (T : State) (h : Heap) (locs : List Loc), Fr n0 locs ∧ Stand p l e room_1 s m #[(.int p0)] below meth c T locs 2 129 ∧ T.heap = h ∧ Keep h0 h [] ∧ n0 ≤ h.size ∧ Old Z n0 h ∧ Arv Z h b21 k21 .char (64 : Int32) [(.int (nar .char (65 : Int32))), (.int (nar .char (98 : Int32))), (.int (nar .char (90 : Int32))), (.int (nar .char (122 : Int32))), (.int (nar .char (48 : Int32))), (.int (nar .char (57 : Int32))), (.int (nar .char (45 : Int32))), (.int (nar .char (95 : Int32))), (.int (nar .char (65 : Int32))), (.int (nar .char (98 : Int32))), (.int (nar .char (90 : Int32))), (.int (nar .char (122 : Int32))), (.int (nar .char (48 : Int32))), (.int (nar .char (57 : Int32))), (.int (nar .char (45 : Int32))), (.int (nar .char (95 : Int32))), (.int (nar .char (65 : Int32))), (.int (nar .char (98 : Int32))), (.int (nar .char (90 : Int32))), (.int (nar .char (122 : Int32))), (.int (nar .char (48 : Int32))), (.int (nar .char (57 : Int32))), (.int (nar .char (45 : Int32))), (.int (nar .char (95 : Int32))), (.int (nar .char (65 : Int32))), (.int (nar .char (98 : Int32))), (.int (nar .char (90 : Int32))), (.int (nar .char (122 : Int32))), (.int (nar .char (48 : Int32))), (.int (nar .char (57 : Int32))), (.int (nar .char (45 : Int32))), (.int (nar .char (95 : Int32))), (.int (nar .char (65 : Int32))), (.int (nar .char (98 : Int32))), (.int (nar .char (90 : Int32))), (.int (nar .char (122 : Int32))), (.int (nar .char (48 : Int32))), (.int (nar .char (57 : Int32))), (.int (nar .char (45 : Int32))), (.int (nar .char (95 : Int32))), (.int (nar .char (65 : Int32))), (.int (nar .char (98 : Int32))), (.int (nar .char (90 : Int32))), (.int (nar .char (122 : Int32))), (.int (nar .char (48 : Int32))), (.int (nar .char (57 : Int32))), (.int (nar .char (45 : Int32))), (.int (nar .char (95 : Int32))), (.int (nar .char (65 : Int32))), (.int (nar .char (98 : Int32))), (.int (nar .char (90 : Int32))), (.int (nar .char (122 : Int32))), (.int (nar .char (48 : Int32))), (.int (nar .char (57 : Int32))), (.int (nar .char (45 : Int32))), (.int (nar .char (95 : Int32))), (.int (nar .char (65 : Int32))), (.int (nar .char (98 : Int32))), (.int (nar .char (90 : Int32))), (.int (nar .char (122 : Int32))), (.int (nar .char (48 : Int32))), (.int (nar .char (57 : Int32))), (.int (nar .char (45 : Int32))), (.int (nar .char (95 : Int32)))] (.int 0) ∧ Arv Z h b225 k225 .char (65 : Int32) [(.int (nar .char (65 : Int32))), (.int (nar .char (98 : Int32))), (.int (nar .char (90 : Int32))), (.int (nar .char (122 : Int32))), (.int (nar .char (48 : Int32))), (.int (nar .char (57 : Int32))), (.int (nar .char (45 : Int32))), (.int (nar .char (95 : Int32))), (.int 0), (.int 0), (.int 0), (.int 0), (.int 0), (.int 0), (.int 0), (.int 0), (.int 0), (.int 0), (.int 0), (.int 0), (.int 0), (.int 0), (.int 0), (.int 0), (.int 0), (.int 0), (.int 0), (.int 0), (.int 0), (.int 0), (.int 0), (.int 0), (.int 0), (.int 0), (.int 0), (.int 0), (.int 0), (.int 0), (.int 0), (.int 0), (.int 0), (.int 0), (.int 0), (.int 0), (.int 0), (.int 0), (.int 0), (.int 0), (.int 0), (.int 0), (.int 0), (.int 0), (.int 0), (.int 0), (.int 0), (.int 0), (.int 0), (.int 0), (.int 0), (.int 0), (.int 0), (.int 0), (.int 0), (.int 0), (.int 0)] (.int 0) ∧ SS p e below S0 (T.setTop (mkF m 461 #[vi p0, vi pk, vr uk, vr b21, .unset, .unset, .unset, .unset] [(.ref b225)])) := by
    have c230 : SS p e below S0 (T225.setTop (mkF m 423 #[vi p0, vi pk, vr uk, vr b21, .unset, .unset, .unset, .unset] [(.int 65), (.int 0), (.ref b225), (.ref b225)])) := c226.trans (by
      show SS p e below (T225.setTop (mkF m 419 #[vi p0, vi pk, vr uk, vr b21, .unset, .unset, .unset, .unset] [(.ref b225)])) _
      refine XS.dup X225.here hx rfl (hb hby at_419) rfl rfl ?_
      refine XS.iconst X225.here hx rfl (hb hby at_420) ?_
      refine XS.bipush X225.here hx rfl (hb hby at_421) ?_
      exact Steps.refl _)
    obtain ⟨cl231, Ar231, q231, S231, Nn231, Ha231, G231⟩ := id V225
    obtain ⟨T231, h231, X231, e231, W231, st231⟩ := stC X225 hx hZ e225 Ar231 (j := (0 : Int32)) (inb_of S231 ⟨by decide, by decide⟩) (g := (mkF m 423 #[vi p0, vi pk, vr uk, vr b21, .unset, .unset, .unset, .unset] [(.int 65), (.int 0), (.ref b225), (.ref b225)])) rfl rfl (hb hby at_423)
    have V231 : Arv Z h231 b225 k225 .char (65 : Int32) [(.int (nar .char (65 : Int32))), (.int 0), (.int 0), (.int 0), (.int 0), (.int 0), (.int 0), (.int 0), (.int 0), (.int 0), (.int 0), (.int 0), (.int 0), (.int 0), (.int 0), (.int 0), (.int 0), (.int 0), (.int 0), (.int 0), (.int 0), (.int 0), (.int 0), (.int 0), (.int 0), (.int 0), (.int 0), (.int 0), (.int 0), (.int 0), (.int 0), (.int 0), (.int 0), (.int 0), (.int 0), (.int 0), (.int 0), (.int 0), (.int 0), (.int 0), (.int 0), (.int 0), (.int 0), (.int 0), (.int 0), (.int 0), (.int 0), (.int 0), (.int 0), (.int 0), (.int 0), (.int 0), (.int 0), (.int 0), (.int 0), (.int 0), (.int 0), (.int 0), (.int 0), (.int 0), (.int 0), (.int 0), (.int 0), (.int 0), (.int 0)] (.int 0) := Arv.set Ar231 q231 S231 Nn231 Ha231 G231 (fits_nar_char _) W231 0 rfl (Nat.le_of_ble_eq_true rfl)
    have c232 : SS p e below S0 (T231.setTop (mkF m 424 #[vi p0, vi pk, vr uk, vr b21, .unset, .unset, .unset, .unset] [(.ref b225)])) := c230.trans (st231 _ (Steps.refl _))
    have N231 := Fr.snoc X231 N199 (Nat.le_trans Z0 ge228)
    have z231 : n0 ≤ h231.size := Nat.le_trans z225 (Keep.of_wr W231).1
    have K231 := K225.wr W231 (Or.inr ge228)
    have c233 : SS p e below S0 (T231.setTop (mkF m 428 #[vi p0, vi pk, vr uk, vr b21, .unset, .unset, .unset, .unset] [(.int 98), (.int 1), (.ref b225), (.ref b225)])) := c232.trans (by
      show SS p e below (T231.setTop (mkF m 424 #[vi p0, vi pk, vr uk, vr b21, .unset, .unset, .unset, .unset] [(.ref b225)])) _
      refine XS.dup X231.here hx rfl (hb hby at_424) rfl rfl ?_
      refine XS.iconst X231.here hx rfl (hb hby at_425) ?_
      refine XS.bipush X231.here hx rfl (hb hby at_426) ?_
      exact Steps.refl _)
    obtain ⟨cl234, Ar234, q234, S234, Nn234, Ha234, G234⟩ := id V231
    obtain ⟨T234, h234, X234, e234, W234, st234⟩ := stC X231 hx hZ e231 Ar234 (j := (1 : Int32)) (inb_of S234 ⟨by decide, by decide⟩) (g := (mkF m 428 #[vi p0, vi pk, vr uk, vr b21, .unset, .unset, .unset, .unset] [(.int 98), (.int 1), (.ref b225), (.ref b225)])) rfl rfl (hb hby at_428)
    have V234 : Arv Z h234 b225 k225 .char (65 : Int32) [(.int (nar .char (65 : Int32))), (.int (nar .char (98 : Int32))), (.int 0), (.int 0), (.int 0), (.int 0), (.int 0), (.int 0), (.int 0), (.int 0), (.int 0), (.int 0), (.int 0), (.int 0), (.int 0), (.int 0), (.int 0), (.int 0), (.int 0), (.int 0), (.int 0), (.int 0), (.int 0), (.int 0), (.int 0), (.int 0), (.int 0), (.int 0), (.int 0), (.int 0), (.int 0), (.int 0), (.int 0), (.int 0), (.int 0), (.int 0), (.int 0), (.int 0), (.int 0), (.int 0), (.int 0), (.int 0), (.int 0), (.int 0), (.int 0), (.int 0), (.int 0), (.int 0), (.int 0), (.int 0), (.int 0), (.int 0), (.int 0), (.int 0), (.int 0), (.int 0), (.int 0), (.int 0), (.int 0), (.int 0), (.int 0), (.int 0), (.int 0), (.int 0), (.int 0)] (.int 0) := Arv.set Ar234 q234 S234 Nn234 Ha234 G234 (fits_nar_char _) W234 1 rfl (Nat.le_of_ble_eq_true rfl)
    have c235 : SS p e below S0 (T234.setTop (mkF m 429 #[vi p0, vi pk, vr uk, vr b21, .unset, .unset, .unset, .unset] [(.ref b225)])) := c233.trans (st234 _ (Steps.refl _))
    have N234 := Fr.snoc X234 N231 (Nat.le_trans Z0 ge228)
    have z234 : n0 ≤ h234.size := Nat.le_trans z231 (Keep.of_wr W234).1
    have K234 := K231.wr W234 (Or.inr ge228)
    have c236 : SS p e below S0 (T234.setTop (mkF m 433 #[vi p0, vi pk, vr uk, vr b21, .unset, .unset, .unset, .unset] [(.int 90), (.int 2), (.ref b225), (.ref b225)])) := c235.trans (by
      show SS p e below (T234.setTop (mkF m 429 #[vi p0, vi pk, vr uk, vr b21, .unset, .unset, .unset, .unset] [(.ref b225)])) _
      refine XS.dup X234.here hx rfl (hb hby at_429) rfl rfl ?_
      refine XS.iconst X234.here hx rfl (hb hby at_430) ?_
      refine XS.bipush X234.here hx rfl (hb hby at_431) ?_
      exact Steps.refl _)
    obtain ⟨cl237, Ar237, q237, S237, Nn237, Ha237, G237⟩ := id V234
    obtain ⟨T237, h237, X237, e237, W237, st237⟩ := stC X234 hx hZ e234 Ar237 (j := (2 : Int32)) (inb_of S237 ⟨by decide, by decide⟩) (g := (mkF m 433 #[vi p0, vi pk, vr uk, vr b21, .unset, .unset, .unset, .unset] [(.int 90), (.int 2), (.ref b225), (.ref b225)])) rfl rfl (hb hby at_433)
    have V237 : Arv Z h237 b225 k225 .char (65 : Int32) [(.int (nar .char (65 : Int32))), (.int (nar .char (98 : Int32))), (.int (nar .char (90 : Int32))), (.int 0), (.int 0), (.int 0), (.int 0), (.int 0), (.int 0), (.int 0), (.int 0), (.int 0), (.int 0), (.int 0), (.int 0), (.int 0), (.int 0), (.int 0), (.int 0), (.int 0), (.int 0), (.int 0), (.int 0), (.int 0), (.int 0), (.int 0), (.int 0), (.int 0), (.int 0), (.int 0), (.int 0), (.int 0), (.int 0), (.int 0), (.int 0), (.int 0), (.int 0), (.int 0), (.int 0), (.int 0), (.int 0), (.int 0), (.int 0), (.int 0), (.int 0), (.int 0), (.int 0), (.int 0), (.int 0), (.int 0), (.int 0), (.int 0), (.int 0), (.int 0), (.int 0), (.int 0), (.int 0), (.int 0), (.int 0), (.int 0), (.int 0), (.int 0), (.int 0), (.int 0), (.int 0)] (.int 0) := Arv.set Ar237 q237 S237 Nn237 Ha237 G237 (fits_nar_char _) W237 2 rfl (Nat.le_of_ble_eq_true rfl)
    have c238 : SS p e below S0 (T237.setTop (mkF m 434 #[vi p0, vi pk, vr uk, vr b21, .unset, .unset, .unset, .unset] [(.ref b225)])) := c236.trans (st237 _ (Steps.refl _))
    have N237 := Fr.snoc X237 N234 (Nat.le_trans Z0 ge228)
    have z237 : n0 ≤ h237.size := Nat.le_trans z234 (Keep.of_wr W237).1
    have K237 := K234.wr W237 (Or.inr ge228)
    have c239 : SS p e below S0 (T237.setTop (mkF m 438 #[vi p0, vi pk, vr uk, vr b21, .unset, .unset, .unset, .unset] [(.int 122), (.int 3), (.ref b225), (.ref b225)])) := c238.trans (by
      show SS p e below (T237.setTop (mkF m 434 #[vi p0, vi pk, vr uk, vr b21, .unset, .unset, .unset, .unset] [(.ref b225)])) _
      refine XS.dup X237.here hx rfl (hb hby at_434) rfl rfl ?_
      refine XS.iconst X237.here hx rfl (hb hby at_435) ?_
      refine XS.bipush X237.here hx rfl (hb hby at_436) ?_
      exact Steps.refl _)
    obtain ⟨cl240, Ar240, q240, S240, Nn240, Ha240, G240⟩ := id V237
    obtain ⟨T240, h240, X240, e240, W240, st240⟩ := stC X237 hx hZ e237 Ar240 (j := (3 : Int32)) (inb_of S240 ⟨by decide, by decide⟩) (g := (mkF m 438 #[vi p0, vi pk, vr uk, vr b21, .unset, .unset, .unset, .unset] [(.int 122), (.int 3), (.ref b225), (.ref b225)])) rfl rfl (hb hby at_438)
    have V240 : Arv Z h240 b225 k225 .char (65 : Int32) [(.int (nar .char (65 : Int32))), (.int (nar .char (98 : Int32))), (.int (nar .char (90 : Int32))), (.int (nar .char (122 : Int32))), (.int 0), (.int 0), (.int 0), (.int 0), (.int 0), (.int 0), (.int 0), (.int 0), (.int 0), (.int 0), (.int 0), (.int 0), (.int 0), (.int 0), (.int 0), (.int 0), (.int 0), (.int 0), (.int 0), (.int 0), (.int 0), (.int 0), (.int 0), (.int 0), (.int 0), (.int 0), (.int 0), (.int 0), (.int 0), (.int 0), (.int 0), (.int 0), (.int 0), (.int 0), (.int 0), (.int 0), (.int 0), (.int 0), (.int 0), (.int 0), (.int 0), (.int 0), (.int 0), (.int 0), (.int 0), (.int 0), (.int 0), (.int 0), (.int 0), (.int 0), (.int 0), (.int 0), (.int 0), (.int 0), (.int 0), (.int 0), (.int 0), (.int 0), (.int 0), (.int 0), (.int 0)] (.int 0) := Arv.set Ar240 q240 S240 Nn240 Ha240 G240 (fits_nar_char _) W240 3 rfl (Nat.le_of_ble_eq_true rfl)
    have c241 : SS p e below S0 (T240.setTop (mkF m 439 #[vi p0, vi pk, vr uk, vr b21, .unset, .unset, .unset, .unset] [(.ref b225)])) := c239.trans (st240 _ (Steps.refl _))
    have N240 := Fr.snoc X240 N237 (Nat.le_trans Z0 ge228)
    have z240 : n0 ≤ h240.size := Nat.le_trans z237 (Keep.of_wr W240).1
    have K240 := K237.wr W240 (Or.inr ge228)
    have c242 : SS p e below S0 (T240.setTop (mkF m 443 #[vi p0, vi pk, vr uk, vr b21, .unset, .unset, .unset, .unset] [(.int 48), (.int 4), (.ref b225), (.ref b225)])) := c241.trans (by
      show SS p e below (T240.setTop (mkF m 439 #[vi p0, vi pk, vr uk, vr b21, .unset, .unset, .unset, .unset] [(.ref b225)])) _
      refine XS.dup X240.here hx rfl (hb hby at_439) rfl rfl ?_
      refine XS.iconst X240.here hx rfl (hb hby at_440) ?_
      refine XS.bipush X240.here hx rfl (hb hby at_441) ?_
      exact Steps.refl _)
    obtain ⟨cl243, Ar243, q243, S243, Nn243, Ha243, G243⟩ := id V240
    obtain ⟨T243, h243, X243, e243, W243, st243⟩ := stC X240 hx hZ e240 Ar243 (j := (4 : Int32)) (inb_of S243 ⟨by decide, by decide⟩) (g := (mkF m 443 #[vi p0, vi pk, vr uk, vr b21, .unset, .unset, .unset, .unset] [(.int 48), (.int 4), (.ref b225), (.ref b225)])) rfl rfl (hb hby at_443)
    have V243 : Arv Z h243 b225 k225 .char (65 : Int32) [(.int (nar .char (65 : Int32))), (.int (nar .char (98 : Int32))), (.int (nar .char (90 : Int32))), (.int (nar .char (122 : Int32))), (.int (nar .char (48 : Int32))), (.int 0), (.int 0), (.int 0), (.int 0), (.int 0), (.int 0), (.int 0), (.int 0), (.int 0), (.int 0), (.int 0), (.int 0), (.int 0), (.int 0), (.int 0), (.int 0), (.int 0), (.int 0), (.int 0), (.int 0), (.int 0), (.int 0), (.int 0), (.int 0), (.int 0), (.int 0), (.int 0), (.int 0), (.int 0), (.int 0), (.int 0), (.int 0), (.int 0), (.int 0), (.int 0), (.int 0), (.int 0), (.int 0), (.int 0), (.int 0), (.int 0), (.int 0), (.int 0), (.int 0), (.int 0), (.int 0), (.int 0), (.int 0), (.int 0), (.int 0), (.int 0), (.int 0), (.int 0), (.int 0), (.int 0), (.int 0), (.int 0), (.int 0), (.int 0), (.int 0)] (.int 0) := Arv.set Ar243 q243 S243 Nn243 Ha243 G243 (fits_nar_char _) W243 4 rfl (Nat.le_of_ble_eq_true rfl)
    have c244 : SS p e below S0 (T243.setTop (mkF m 444 #[vi p0, vi pk, vr uk, vr b21, .unset, .unset, .unset, .unset] [(.ref b225)])) := c242.trans (st243 _ (Steps.refl _))
    have N243 := Fr.snoc X243 N240 (Nat.le_trans Z0 ge228)
    have z243 : n0 ≤ h243.size := Nat.le_trans z240 (Keep.of_wr W243).1
    have K243 := K240.wr W243 (Or.inr ge228)
    have c245 : SS p e below S0 (T243.setTop (mkF m 448 #[vi p0, vi pk, vr uk, vr b21, .unset, .unset, .unset, .unset] [(.int 57), (.int 5), (.ref b225), (.ref b225)])) := c244.trans (by
      show SS p e below (T243.setTop (mkF m 444 #[vi p0, vi pk, vr uk, vr b21, .unset, .unset, .unset, .unset] [(.ref b225)])) _
      refine XS.dup X243.here hx rfl (hb hby at_444) rfl rfl ?_
      refine XS.iconst X243.here hx rfl (hb hby at_445) ?_
      refine XS.bipush X243.here hx rfl (hb hby at_446) ?_
      exact Steps.refl _)
    obtain ⟨cl246, Ar246, q246, S246, Nn246, Ha246, G246⟩ := id V243
    obtain ⟨T246, h246, X246, e246, W246, st246⟩ := stC X243 hx hZ e243 Ar246 (j := (5 : Int32)) (inb_of S246 ⟨by decide, by decide⟩) (g := (mkF m 448 #[vi p0, vi pk, vr uk, vr b21, .unset, .unset, .unset, .unset] [(.int 57), (.int 5), (.ref b225), (.ref b225)])) rfl rfl (hb hby at_448)
    have V246 : Arv Z h246 b225 k225 .char (65 : Int32) [(.int (nar .char (65 : Int32))), (.int (nar .char (98 : Int32))), (.int (nar .char (90 : Int32))), (.int (nar .char (122 : Int32))), (.int (nar .char (48 : Int32))), (.int (nar .char (57 : Int32))), (.int 0), (.int 0), (.int 0), (.int 0), (.int 0), (.int 0), (.int 0), (.int 0), (.int 0), (.int 0), (.int 0), (.int 0), (.int 0), (.int 0), (.int 0), (.int 0), (.int 0), (.int 0), (.int 0), (.int 0), (.int 0), (.int 0), (.int 0), (.int 0), (.int 0), (.int 0), (.int 0), (.int 0), (.int 0), (.int 0), (.int 0), (.int 0), (.int 0), (.int 0), (.int 0), (.int 0), (.int 0), (.int 0), (.int 0), (.int 0), (.int 0), (.int 0), (.int 0), (.int 0), (.int 0), (.int 0), (.int 0), (.int 0), (.int 0), (.int 0), (.int 0), (.int 0), (.int 0), (.int 0), (.int 0), (.int 0), (.int 0), (.int 0), (.int 0)] (.int 0) := Arv.set Ar246 q246 S246 Nn246 Ha246 G246 (fits_nar_char _) W246 5 rfl (Nat.le_of_ble_eq_true rfl)
    have c247 : SS p e below S0 (T246.setTop (mkF m 449 #[vi p0, vi pk, vr uk, vr b21, .unset, .unset, .unset, .unset] [(.ref b225)])) := c245.trans (st246 _ (Steps.refl _))
    have N246 := Fr.snoc X246 N243 (Nat.le_trans Z0 ge228)
    have z246 : n0 ≤ h246.size := Nat.le_trans z243 (Keep.of_wr W246).1
    have K246 := K243.wr W246 (Or.inr ge228)
    have c248 : SS p e below S0 (T246.setTop (mkF m 454 #[vi p0, vi pk, vr uk, vr b21, .unset, .unset, .unset, .unset] [(.int 45), (.int 6), (.ref b225), (.ref b225)])) := c247.trans (by
      show SS p e below (T246.setTop (mkF m 449 #[vi p0, vi pk, vr uk, vr b21, .unset, .unset, .unset, .unset] [(.ref b225)])) _
      refine XS.dup X246.here hx rfl (hb hby at_449) rfl rfl ?_
      refine XS.bipush X246.here hx rfl (hb hby at_450) ?_
      refine XS.bipush X246.here hx rfl (hb hby at_452) ?_
      exact Steps.refl _)
    obtain ⟨cl249, Ar249, q249, S249, Nn249, Ha249, G249⟩ := id V246
    obtain ⟨T249, h249, X249, e249, W249, st249⟩ := stC X246 hx hZ e246 Ar249 (j := (6 : Int32)) (inb_of S249 ⟨by decide, by decide⟩) (g := (mkF m 454 #[vi p0, vi pk, vr uk, vr b21, .unset, .unset, .unset, .unset] [(.int 45), (.int 6), (.ref b225), (.ref b225)])) rfl rfl (hb hby at_454)
    have V249 : Arv Z h249 b225 k225 .char (65 : Int32) [(.int (nar .char (65 : Int32))), (.int (nar .char (98 : Int32))), (.int (nar .char (90 : Int32))), (.int (nar .char (122 : Int32))), (.int (nar .char (48 : Int32))), (.int (nar .char (57 : Int32))), (.int (nar .char (45 : Int32))), (.int 0), (.int 0), (.int 0), (.int 0), (.int 0), (.int 0), (.int 0), (.int 0), (.int 0), (.int 0), (.int 0), (.int 0), (.int 0), (.int 0), (.int 0), (.int 0), (.int 0), (.int 0), (.int 0), (.int 0), (.int 0), (.int 0), (.int 0), (.int 0), (.int 0), (.int 0), (.int 0), (.int 0), (.int 0), (.int 0), (.int 0), (.int 0), (.int 0), (.int 0), (.int 0), (.int 0), (.int 0), (.int 0), (.int 0), (.int 0), (.int 0), (.int 0), (.int 0), (.int 0), (.int 0), (.int 0), (.int 0), (.int 0), (.int 0), (.int 0), (.int 0), (.int 0), (.int 0), (.int 0), (.int 0), (.int 0), (.int 0), (.int 0)] (.int 0) := Arv.set Ar249 q249 S249 Nn249 Ha249 G249 (fits_nar_char _) W249 6 rfl (Nat.le_of_ble_eq_true rfl)
    have c250 : SS p e below S0 (T249.setTop (mkF m 455 #[vi p0, vi pk, vr uk, vr b21, .unset, .unset, .unset, .unset] [(.ref b225)])) := c248.trans (st249 _ (Steps.refl _))
    have N249 := Fr.snoc X249 N246 (Nat.le_trans Z0 ge228)
    have z249 : n0 ≤ h249.size := Nat.le_trans z246 (Keep.of_wr W249).1
    have K249 := K246.wr W249 (Or.inr ge228)
    have c251 : SS p e below S0 (T249.setTop (mkF m 460 #[vi p0, vi pk, vr uk, vr b21, .unset, .unset, .unset, .unset] [(.int 95), (.int 7), (.ref b225), (.ref b225)])) := c250.trans (by
      show SS p e below (T249.setTop (mkF m 455 #[vi p0, vi pk, vr uk, vr b21, .unset, .unset, .unset, .unset] [(.ref b225)])) _
      refine XS.dup X249.here hx rfl (hb hby at_455) rfl rfl ?_
      refine XS.bipush X249.here hx rfl (hb hby at_456) ?_
      refine XS.bipush X249.here hx rfl (hb hby at_458) ?_
      exact Steps.refl _)
    obtain ⟨cl252, Ar252, q252, S252, Nn252, Ha252, G252⟩ := id V249
    obtain ⟨T252, h252, X252, e252, W252, st252⟩ := stC X249 hx hZ e249 Ar252 (j := (7 : Int32)) (inb_of S252 ⟨by decide, by decide⟩) (g := (mkF m 460 #[vi p0, vi pk, vr uk, vr b21, .unset, .unset, .unset, .unset] [(.int 95), (.int 7), (.ref b225), (.ref b225)])) rfl rfl (hb hby at_460)
    have V252 : Arv Z h252 b225 k225 .char (65 : Int32) [(.int (nar .char (65 : Int32))), (.int (nar .char (98 : Int32))), (.int (nar .char (90 : Int32))), (.int (nar .char (122 : Int32))), (.int (nar .char (48 : Int32))), (.int (nar .char (57 : Int32))), (.int (nar .char (45 : Int32))), (.int (nar .char (95 : Int32))), (.int 0), (.int 0), (.int 0), (.int 0), (.int 0), (.int 0), (.int 0), (.int 0), (.int 0), (.int 0), (.int 0), (.int 0), (.int 0), (.int 0), (.int 0), (.int 0), (.int 0), (.int 0), (.int 0), (.int 0), (.int 0), (.int 0), (.int 0), (.int 0), (.int 0), (.int 0), (.int 0), (.int 0), (.int 0), (.int 0), (.int 0), (.int 0), (.int 0), (.int 0), (.int 0), (.int 0), (.int 0), (.int 0), (.int 0), (.int 0), (.int 0), (.int 0), (.int 0), (.int 0), (.int 0), (.int 0), (.int 0), (.int 0), (.int 0), (.int 0), (.int 0), (.int 0), (.int 0), (.int 0), (.int 0), (.int 0), (.int 0)] (.int 0) := Arv.set Ar252 q252 S252 Nn252 Ha252 G252 (fits_nar_char _) W252 7 rfl (Nat.le_of_ble_eq_true rfl)
    have c253 : SS p e below S0 (T252.setTop (mkF m 461 #[vi p0, vi pk, vr uk, vr b21, .unset, .unset, .unset, .unset] [(.ref b225)])) := c251.trans (st252 _ (Steps.refl _))
    have N252 := Fr.snoc X252 N249 (Nat.le_trans Z0 ge228)
    have z252 : n0 ≤ h252.size := Nat.le_trans z249 (Keep.of_wr W252).1
    have K252 := K249.wr W252 (Or.inr ge228)
    exact ⟨T252, _, _, N252, X252, e252, K252, z252, (((((((((O199.ext E225).wr W231 (Nat.le_trans Z0 ge228)).wr W234 (Nat.le_trans Z0 ge228)).wr W237 (Nat.le_trans Z0 ge228)).wr W240 (Nat.le_trans Z0 ge228)).wr W243 (Nat.le_trans Z0 ge228)).wr W246 (Nat.le_trans Z0 ge228)).wr W249 (Nat.le_trans Z0 ge228)).wr W252 (Nat.le_trans Z0 ge228)), (((((((((V199_b21.ext E225).other W231 ne227).other W234 ne227).other W237 ne227).other W240 ne227).other W243 ne227).other W246 ne227).other W249 ne227).other W252 ne227), V252, c253⟩
  obtain ⟨T254, h254, l254, N254, X254, e254, K254, z254, O254, V254_b21, V254_b225, c254⟩ : ∃ (T : State) (h : Heap) (locs : List Loc), Fr n0 locs ∧ Stand p l e room_1 s m #[(.int p0)] below meth c T locs 2 129 ∧ T.heap = h ∧ Keep h0 h [] ∧ n0 ≤ h.size ∧ Old Z n0 h ∧ Arv Z h b21 k21 .char (64 : Int32) [(.int (nar .char (65 : Int32))), (.int (nar .char (98 : Int32))), (.int (nar .char (90 : Int32))), (.int (nar .char (122 : Int32))), (.int (nar .char (48 : Int32))), (.int (nar .char (57 : Int32))), (.int (nar .char (45 : Int32))), (.int (nar .char (95 : Int32))), (.int (nar .char (65 : Int32))), (.int (nar .char (98 : Int32))), (.int (nar .char (90 : Int32))), (.int (nar .char (122 : Int32))), (.int (nar .char (48 : Int32))), (.int (nar .char (57 : Int32))), (.int (nar .char (45 : Int32))), (.int (nar .char (95 : Int32))), (.int (nar .char (65 : Int32))), (.int (nar .char (98 : Int32))), (.int (nar .char (90 : Int32))), (.int (nar .char (122 : Int32))), (.int (nar .char (48 : Int32))), (.int (nar .char (57 : Int32))), (.int (nar .char (45 : Int32))), (.int (nar .char (95 : Int32))), (.int (nar .char (65 : Int32))), (.int (nar .char (98 : Int32))), (.int (nar .char (90 : Int32))), (.int (nar .char (122 : Int32))), (.int (nar .char (48 : Int32))), (.int (nar .char (57 : Int32))), (.int (nar .char (45 : Int32))), (.int (nar .char (95 : Int32))), (.int (nar .char (65 : Int32))), (.int (nar .char (98 : Int32))), (.int (nar .char (90 : Int32))), (.int (nar .char (122 : Int32))), (.int (nar .char (48 : Int32))), (.int (nar .char (57 : Int32))), (.int (nar .char (45 : Int32))), (.int (nar .char (95 : Int32))), (.int (nar .char (65 : Int32))), (.int (nar .char (98 : Int32))), (.int (nar .char (90 : Int32))), (.int (nar .char (122 : Int32))), (.int (nar .char (48 : Int32))), (.int (nar .char (57 : Int32))), (.int (nar .char (45 : Int32))), (.int (nar .char (95 : Int32))), (.int (nar .char (65 : Int32))), (.int (nar .char (98 : Int32))), (.int (nar .char (90 : Int32))), (.int (nar .char (122 : Int32))), (.int (nar .char (48 : Int32))), (.int (nar .char (57 : Int32))), (.int (nar .char (45 : Int32))), (.int (nar .char (95 : Int32))), (.int (nar .char (65 : Int32))), (.int (nar .char (98 : Int32))), (.int (nar .char (90 : Int32))), (.int (nar .char (122 : Int32))), (.int (nar .char (48 : Int32))), (.int (nar .char (57 : Int32))), (.int (nar .char (45 : Int32))), (.int (nar .char (95 : Int32)))] (.int 0) ∧ Arv Z h b225 k225 .char (65 : Int32) [(.int (nar .char (65 : Int32))), (.int (nar .char (98 : Int32))), (.int (nar .char (90 : Int32))), (.int (nar .char (122 : Int32))), (.int (nar .char (48 : Int32))), (.int (nar .char (57 : Int32))), (.int (nar .char (45 : Int32))), (.int (nar .char (95 : Int32))), (.int (nar .char (65 : Int32))), (.int (nar .char (98 : Int32))), (.int (nar .char (90 : Int32))), (.int (nar .char (122 : Int32))), (.int (nar .char (48 : Int32))), (.int (nar .char (57 : Int32))), (.int (nar .char (45 : Int32))), (.int (nar .char (95 : Int32))), (.int 0), (.int 0), (.int 0), (.int 0), (.int 0), (.int 0), (.int 0), (.int 0), (.int 0), (.int 0), (.int 0), (.int 0), (.int 0), (.int 0), (.int 0), (.int 0), (.int 0), (.int 0), (.int 0), (.int 0), (.int 0), (.int 0), (.int 0), (.int 0), (.int 0), (.int 0), (.int 0), (.int 0), (.int 0), (.int 0), (.int 0), (.int 0), (.int 0), (.int 0), (.int 0), (.int 0), (.int 0), (.int 0), (.int 0), (.int 0), (.int 0), (.int 0), (.int 0), (.int 0), (.int 0), (.int 0), (.int 0), (.int 0), (.int 0)] (.int 0) ∧ SS p e below S0 (T.setTop (mkF m 509 #[vi p0, vi pk, vr uk, vr b21, .unset, .unset, .unset, .unset] [(.ref b225)])) := by
    have c255 : SS p e below S0 (T229.setTop (mkF m 466 #[vi p0, vi pk, vr uk, vr b21, .unset, .unset, .unset, .unset] [(.int 65), (.int 8), (.ref b225), (.ref b225)])) := c229.trans (by
      show SS p e below (T229.setTop (mkF m 461 #[vi p0, vi pk, vr uk, vr b21, .unset, .unset, .unset, .unset] [(.ref b225)])) _
      refine XS.dup X229.here hx rfl (hb hby at_461) rfl rfl ?_
      refine XS.bipush X229.here hx rfl (hb hby at_462) ?_
      refine XS.bipush X229.here hx rfl (hb hby at_464) ?_
      exact Steps.refl _)
    obtain ⟨cl256, Ar256, q256, S256, Nn256, Ha256, G256⟩ := id V229_b225
    obtain ⟨T256, h256, X256, e256, W256, st256⟩ := stC X229 hx hZ e229 Ar256 (j := (8 : Int32)) (inb_of S256 ⟨by decide, by decide⟩) (g := (mkF m 466 #[vi p0, vi pk, vr uk, vr b21, .unset, .unset, .unset, .unset] [(.int 65), (.int 8), (.ref b225), (.ref b225)])) rfl rfl (hb hby at_466)
    have V256 : Arv Z h256 b225 k225 .char (65 : Int32) [(.int (nar .char (65 : Int32))), (.int (nar .char (98 : Int32))), (.int (nar .char (90 : Int32))), (.int (nar .char (122 : Int32))), (.int (nar .char (48 : Int32))), (.int (nar .char (57 : Int32))), (.int (nar .char (45 : Int32))), (.int (nar .char (95 : Int32))), (.int (nar .char (65 : Int32))), (.int 0), (.int 0), (.int 0), (.int 0), (.int 0), (.int 0), (.int 0), (.int 0), (.int 0), (.int 0), (.int 0), (.int 0), (.int 0), (.int 0), (.int 0), (.int 0), (.int 0), (.int 0), (.int 0), (.int 0), (.int 0), (.int 0), (.int 0), (.int 0), (.int 0), (.int 0), (.int 0), (.int 0), (.int 0), (.int 0), (.int 0), (.int 0), (.int 0), (.int 0), (.int 0), (.int 0), (.int 0), (.int 0), (.int 0), (.int 0), (.int 0), (.int 0), (.int 0), (.int 0), (.int 0), (.int 0), (.int 0), (.int 0), (.int 0), (.int 0), (.int 0), (.int 0), (.int 0), (.int 0), (.int 0), (.int 0)] (.int 0) := Arv.set Ar256 q256 S256 Nn256 Ha256 G256 (fits_nar_char _) W256 8 rfl (Nat.le_of_ble_eq_true rfl)
    have c257 : SS p e below S0 (T256.setTop (mkF m 467 #[vi p0, vi pk, vr uk, vr b21, .unset, .unset, .unset, .unset] [(.ref b225)])) := c255.trans (st256 _ (Steps.refl _))
    have N256 := Fr.snoc X256 N229 (Nat.le_trans Z0 ge228)
    have z256 : n0 ≤ h256.size := Nat.le_trans z229 (Keep.of_wr W256).1
    have K256 := K229.wr W256 (Or.inr ge228)
    have c258 : SS p e below S0 (T256.setTop (mkF m 472 #[vi p0, vi pk, vr uk, vr b21, .unset, .unset, .unset, .unset] [(.int 98), (.int 9), (.ref b225), (.ref b225)])) := c257.trans (by
      show SS p e below (T256.setTop (mkF m 467 #[vi p0, vi pk, vr uk, vr b21, .unset, .unset, .unset, .unset] [(.ref b225)])) _
      refine XS.dup X256.here hx rfl (hb hby at_467) rfl rfl ?_
      refine XS.bipush X256.here hx rfl (hb hby at_468) ?_
      refine XS.bipush X256.here hx rfl (hb hby at_470) ?_
      exact Steps.refl _)
    obtain ⟨cl259, Ar259, q259, S259, Nn259, Ha259, G259⟩ := id V256
    obtain ⟨T259, h259, X259, e259, W259, st259⟩ := stC X256 hx hZ e256 Ar259 (j := (9 : Int32)) (inb_of S259 ⟨by decide, by decide⟩) (g := (mkF m 472 #[vi p0, vi pk, vr uk, vr b21, .unset, .unset, .unset, .unset] [(.int 98), (.int 9), (.ref b225), (.ref b225)])) rfl rfl (hb hby at_472)
    have V259 : Arv Z h259 b225 k225 .char (65 : Int32) [(.int (nar .char (65 : Int32))), (.int (nar .char (98 : Int32))), (.int (nar .char (90 : Int32))), (.int (nar .char (122 : Int32))), (.int (nar .char (48 : Int32))), (.int (nar .char (57 : Int32))), (.int (nar .char (45 : Int32))), (.int (nar .char (95 : Int32))), (.int (nar .char (65 : Int32))), (.int (nar .char (98 : Int32))), (.int 0), (.int 0), (.int 0), (.int 0), (.int 0), (.int 0), (.int 0), (.int 0), (.int 0), (.int 0), (.int 0), (.int 0), (.int 0), (.int 0), (.int 0), (.int 0), (.int 0), (.int 0), (.int 0), (.int 0), (.int 0), (.int 0), (.int 0), (.int 0), (.int 0), (.int 0), (.int 0), (.int 0), (.int 0), (.int 0), (.int 0), (.int 0), (.int 0), (.int 0), (.int 0), (.int 0), (.int 0), (.int 0), (.int 0), (.int 0), (.int 0), (.int 0), (.int 0), (.int 0), (.int 0), (.int 0), (.int 0), (.int 0), (.int 0), (.int 0), (.int 0), (.int 0), (.int 0), (.int 0), (.int 0)] (.int 0) := Arv.set Ar259 q259 S259 Nn259 Ha259 G259 (fits_nar_char _) W259 9 rfl (Nat.le_of_ble_eq_true rfl)
    have c260 : SS p e below S0 (T259.setTop (mkF m 473 #[vi p0, vi pk, vr uk, vr b21, .unset, .unset, .unset, .unset] [(.ref b225)])) := c258.trans (st259 _ (Steps.refl _))
    have N259 := Fr.snoc X259 N256 (Nat.le_trans Z0 ge228)
    have z259 : n0 ≤ h259.size := Nat.le_trans z256 (Keep.of_wr W259).1
    have K259 := K256.wr W259 (Or.inr ge228)
    have c261 : SS p e below S0 (T259.setTop (mkF m 478 #[vi p0, vi pk, vr uk, vr b21, .unset, .unset, .unset, .unset] [(.int 90), (.int 10), (.ref b225), (.ref b225)])) := c260.trans (by
      show SS p e below (T259.setTop (mkF m 473 #[vi p0, vi pk, vr uk, vr b21, .unset, .unset, .unset, .unset] [(.ref b225)])) _
      refine XS.dup X259.here hx rfl (hb hby at_473) rfl rfl ?_
      refine XS.bipush X259.here hx rfl (hb hby at_474) ?_
      refine XS.bipush X259.here hx rfl (hb hby at_476) ?_
      exact Steps.refl _)
    obtain ⟨cl262, Ar262, q262, S262, Nn262, Ha262, G262⟩ := id V259
    obtain ⟨T262, h262, X262, e262, W262, st262⟩ := stC X259 hx hZ e259 Ar262 (j := (10 : Int32)) (inb_of S262 ⟨by decide, by decide⟩) (g := (mkF m 478 #[vi p0, vi pk, vr uk, vr b21, .unset, .unset, .unset, .unset] [(.int 90), (.int 10), (.ref b225), (.ref b225)])) rfl rfl (hb hby at_478)
    have V262 : Arv Z h262 b225 k225 .char (65 : Int32) [(.int (nar .char (65 : Int32))), (.int (nar .char (98 : Int32))), (.int (nar .char (90 : Int32))), (.int (nar .char (122 : Int32))), (.int (nar .char (48 : Int32))), (.int (nar .char (57 : Int32))), (.int (nar .char (45 : Int32))), (.int (nar .char (95 : Int32))), (.int (nar .char (65 : Int32))), (.int (nar .char (98 : Int32))), (.int (nar .char (90 : Int32))), (.int 0), (.int 0), (.int 0), (.int 0), (.int 0), (.int 0), (.int 0), (.int 0), (.int 0), (.int 0), (.int 0), (.int 0), (.int 0), (.int 0), (.int 0), (.int 0), (.int 0), (.int 0), (.int 0), (.int 0), (.int 0), (.int 0), (.int 0), (.int 0), (.int 0), (.int 0), (.int 0), (.int 0), (.int 0), (.int 0), (.int 0), (.int 0), (.int 0), (.int 0), (.int 0), (.int 0), (.int 0), (.int 0), (.int 0), (.int 0), (.int 0), (.int 0), (.int 0), (.int 0), (.int 0), (.int 0), (.int 0), (.int 0), (.int 0), (.int 0), (.int 0), (.int 0), (.int 0), (.int 0)] (.int 0) := Arv.set Ar262 q262 S262 Nn262 Ha262 G262 (fits_nar_char _) W262 10 rfl (Nat.le_of_ble_eq_true rfl)
    have c263 : SS p e below S0 (T262.setTop (mkF m 479 #[vi p0, vi pk, vr uk, vr b21, .unset, .unset, .unset, .unset] [(.ref b225)])) := c261.trans (st262 _ (Steps.refl _))
    have N262 := Fr.snoc X262 N259 (Nat.le_trans Z0 ge228)
    have z262 : n0 ≤ h262.size := Nat.le_trans z259 (Keep.of_wr W262).1
    have K262 := K259.wr W262 (Or.inr ge228)
    have c264 : SS p e below S0 (T262.setTop (mkF m 484 #[vi p0, vi pk, vr uk, vr b21, .unset, .unset, .unset, .unset] [(.int 122), (.int 11), (.ref b225), (.ref b225)])) := c263.trans (by
      show SS p e below (T262.setTop (mkF m 479 #[vi p0, vi pk, vr uk, vr b21, .unset, .unset, .unset, .unset] [(.ref b225)])) _
      refine XS.dup X262.here hx rfl (hb hby at_479) rfl rfl ?_
      refine XS.bipush X262.here hx rfl (hb hby at_480) ?_
      refine XS.bipush X262.here hx rfl (hb hby at_482) ?_
      exact Steps.refl _)
    obtain ⟨cl265, Ar265, q265, S265, Nn265, Ha265, G265⟩ := id V262
    obtain ⟨T265, h265, X265, e265, W265, st265⟩ := stC X262 hx hZ e262 Ar265 (j := (11 : Int32)) (inb_of S265 ⟨by decide, by decide⟩) (g := (mkF m 484 #[vi p0, vi pk, vr uk, vr b21, .unset, .unset, .unset, .unset] [(.int 122), (.int 11), (.ref b225), (.ref b225)])) rfl rfl (hb hby at_484)
    have V265 : Arv Z h265 b225 k225 .char (65 : Int32) [(.int (nar .char (65 : Int32))), (.int (nar .char (98 : Int32))), (.int (nar .char (90 : Int32))), (.int (nar .char (122 : Int32))), (.int (nar .char (48 : Int32))), (.int (nar .char (57 : Int32))), (.int (nar .char (45 : Int32))), (.int (nar .char (95 : Int32))), (.int (nar .char (65 : Int32))), (.int (nar .char (98 : Int32))), (.int (nar .char (90 : Int32))), (.int (nar .char (122 : Int32))), (.int 0), (.int 0), (.int 0), (.int 0), (.int 0), (.int 0), (.int 0), (.int 0), (.int 0), (.int 0), (.int 0), (.int 0), (.int 0), (.int 0), (.int 0), (.int 0), (.int 0), (.int 0), (.int 0), (.int 0), (.int 0), (.int 0), (.int 0), (.int 0), (.int 0), (.int 0), (.int 0), (.int 0), (.int 0), (.int 0), (.int 0), (.int 0), (.int 0), (.int 0), (.int 0), (.int 0), (.int 0), (.int 0), (.int 0), (.int 0), (.int 0), (.int 0), (.int 0), (.int 0), (.int 0), (.int 0), (.int 0), (.int 0), (.int 0), (.int 0), (.int 0), (.int 0), (.int 0)] (.int 0) := Arv.set Ar265 q265 S265 Nn265 Ha265 G265 (fits_nar_char _) W265 11 rfl (Nat.le_of_ble_eq_true rfl)
    have c266 : SS p e below S0 (T265.setTop (mkF m 485 #[vi p0, vi pk, vr uk, vr b21, .unset, .unset, .unset, .unset] [(.ref b225)])) := c264.trans (st265 _ (Steps.refl _))
    have N265 := Fr.snoc X265 N262 (Nat.le_trans Z0 ge228)
    have z265 : n0 ≤ h265.size := Nat.le_trans z262 (Keep.of_wr W265).1
    have K265 := K262.wr W265 (Or.inr ge228)
    have c267 : SS p e below S0 (T265.setTop (mkF m 490 #[vi p0, vi pk, vr uk, vr b21, .unset, .unset, .unset, .unset] [(.int 48), (.int 12), (.ref b225), (.ref b225)])) := c266.trans (by
      show SS p e below (T265.setTop (mkF m 485 #[vi p0, vi pk, vr uk, vr b21, .unset, .unset, .unset, .unset] [(.ref b225)])) _
      refine XS.dup X265.here hx rfl (hb hby at_485) rfl rfl ?_
      refine XS.bipush X265.here hx rfl (hb hby at_486) ?_
      refine XS.bipush X265.here hx rfl (hb hby at_488) ?_
      exact Steps.refl _)
    obtain ⟨cl268, Ar268, q268, S268, Nn268, Ha268, G268⟩ := id V265
    obtain ⟨T268, h268, X268, e268, W268, st268⟩ := stC X265 hx hZ e265 Ar268 (j := (12 : Int32)) (inb_of S268 ⟨by decide, by decide⟩) (g := (mkF m 490 #[vi p0, vi pk, vr uk, vr b21, .unset, .unset, .unset, .unset] [(.int 48), (.int 12), (.ref b225), (.ref b225)])) rfl rfl (hb hby at_490)
    have V268 : Arv Z h268 b225 k225 .char (65 : Int32) [(.int (nar .char (65 : Int32))), (.int (nar .char (98 : Int32))), (.int (nar .char (90 : Int32))), (.int (nar .char (122 : Int32))), (.int (nar .char (48 : Int32))), (.int (nar .char (57 : Int32))), (.int (nar .char (45 : Int32))), (.int (nar .char (95 : Int32))), (.int (nar .char (65 : Int32))), (.int (nar .char (98 : Int32))), (.int (nar .char (90 : Int32))), (.int (nar .char (122 : Int32))), (.int (nar .char (48 : Int32))), (.int 0), (.int 0), (.int 0), (.int 0), (.int 0), (.int 0), (.int 0), (.int 0), (.int 0), (.int 0), (.int 0), (.int 0), (.int 0), (.int 0), (.int 0), (.int 0), (.int 0), (.int 0), (.int 0), (.int 0), (.int 0), (.int 0), (.int 0), (.int 0), (.int 0), (.int 0), (.int 0), (.int 0), (.int 0), (.int 0), (.int 0), (.int 0), (.int 0), (.int 0), (.int 0), (.int 0), (.int 0), (.int 0), (.int 0), (.int 0), (.int 0), (.int 0), (.int 0), (.int 0), (.int 0), (.int 0), (.int 0), (.int 0), (.int 0), (.int 0), (.int 0), (.int 0)] (.int 0) := Arv.set Ar268 q268 S268 Nn268 Ha268 G268 (fits_nar_char _) W268 12 rfl (Nat.le_of_ble_eq_true rfl)
    have c269 : SS p e below S0 (T268.setTop (mkF m 491 #[vi p0, vi pk, vr uk, vr b21, .unset, .unset, .unset, .unset] [(.ref b225)])) := c267.trans (st268 _ (Steps.refl _))
    have N268 := Fr.snoc X268 N265 (Nat.le_trans Z0 ge228)
    have z268 : n0 ≤ h268.size := Nat.le_trans z265 (Keep.of_wr W268).1
    have K268 := K265.wr W268 (Or.inr ge228)
    have c270 : SS p e below S0 (T268.setTop (mkF m 496 #[vi p0, vi pk, vr uk, vr b21, .unset, .unset, .unset, .unset] [(.int 57), (.int 13), (.ref b225), (.ref b225)])) := c269.trans (by
      show SS p e below (T268.setTop (mkF m 491 #[vi p0, vi pk, vr uk, vr b21, .unset, .unset, .unset, .unset] [(.ref b225)])) _
      refine XS.dup X268.here hx rfl (hb hby at_491) rfl rfl ?_
      refine XS.bipush X268.here hx rfl (hb hby at_492) ?_
      refine XS.bipush X268.here hx rfl (hb hby at_494) ?_
      exact Steps.refl _)
    obtain ⟨cl271, Ar271, q271, S271, Nn271, Ha271, G271⟩ := id V268
    obtain ⟨T271, h271, X271, e271, W271, st271⟩ := stC X268 hx hZ e268 Ar271 (j := (13 : Int32)) (inb_of S271 ⟨by decide, by decide⟩) (g := (mkF m 496 #[vi p0, vi pk, vr uk, vr b21, .unset, .unset, .unset, .unset] [(.int 57), (.int 13), (.ref b225), (.ref b225)])) rfl rfl (hb hby at_496)
    have V271 : Arv Z h271 b225 k225 .char (65 : Int32) [(.int (nar .char (65 : Int32))), (.int (nar .char (98 : Int32))), (.int (nar .char (90 : Int32))), (.int (nar .char (122 : Int32))), (.int (nar .char (48 : Int32))), (.int (nar .char (57 : Int32))), (.int (nar .char (45 : Int32))), (.int (nar .char (95 : Int32))), (.int (nar .char (65 : Int32))), (.int (nar .char (98 : Int32))), (.int (nar .char (90 : Int32))), (.int (nar .char (122 : Int32))), (.int (nar .char (48 : Int32))), (.int (nar .char (57 : Int32))), (.int 0), (.int 0), (.int 0), (.int 0), (.int 0), (.int 0), (.int 0), (.int 0), (.int 0), (.int 0), (.int 0), (.int 0), (.int 0), (.int 0), (.int 0), (.int 0), (.int 0), (.int 0), (.int 0), (.int 0), (.int 0), (.int 0), (.int 0), (.int 0), (.int 0), (.int 0), (.int 0), (.int 0), (.int 0), (.int 0), (.int 0), (.int 0), (.int 0), (.int 0), (.int 0), (.int 0), (.int 0), (.int 0), (.int 0), (.int 0), (.int 0), (.int 0), (.int 0), (.int 0), (.int 0), (.int 0), (.int 0), (.int 0), (.int 0), (.int 0), (.int 0)] (.int 0) := Arv.set Ar271 q271 S271 Nn271 Ha271 G271 (fits_nar_char _) W271 13 rfl (Nat.le_of_ble_eq_true rfl)
    have c272 : SS p e below S0 (T271.setTop (mkF m 497 #[vi p0, vi pk, vr uk, vr b21, .unset, .unset, .unset, .unset] [(.ref b225)])) := c270.trans (st271 _ (Steps.refl _))
    have N271 := Fr.snoc X271 N268 (Nat.le_trans Z0 ge228)
    have z271 : n0 ≤ h271.size := Nat.le_trans z268 (Keep.of_wr W271).1
    have K271 := K268.wr W271 (Or.inr ge228)
    have c273 : SS p e below S0 (T271.setTop (mkF m 502 #[vi p0, vi pk, vr uk, vr b21, .unset, .unset, .unset, .unset] [(.int 45), (.int 14), (.ref b225), (.ref b225)])) := c272.trans (by
      show SS p e below (T271.setTop (mkF m 497 #[vi p0, vi pk, vr uk, vr b21, .unset, .unset, .unset, .unset] [(.ref b225)])) _
      refine XS.dup X271.here hx rfl (hb hby at_497) rfl rfl ?_
      refine XS.bipush X271.here hx rfl (hb hby at_498) ?_
      refine XS.bipush X271.here hx rfl (hb hby at_500) ?_
      exact Steps.refl _)
    obtain ⟨cl274, Ar274, q274, S274, Nn274, Ha274, G274⟩ := id V271
    obtain ⟨T274, h274, X274, e274, W274, st274⟩ := stC X271 hx hZ e271 Ar274 (j := (14 : Int32)) (inb_of S274 ⟨by decide, by decide⟩) (g := (mkF m 502 #[vi p0, vi pk, vr uk, vr b21, .unset, .unset, .unset, .unset] [(.int 45), (.int 14), (.ref b225), (.ref b225)])) rfl rfl (hb hby at_502)
    have V274 : Arv Z h274 b225 k225 .char (65 : Int32) [(.int (nar .char (65 : Int32))), (.int (nar .char (98 : Int32))), (.int (nar .char (90 : Int32))), (.int (nar .char (122 : Int32))), (.int (nar .char (48 : Int32))), (.int (nar .char (57 : Int32))), (.int (nar .char (45 : Int32))), (.int (nar .char (95 : Int32))), (.int (nar .char (65 : Int32))), (.int (nar .char (98 : Int32))), (.int (nar .char (90 : Int32))), (.int (nar .char (122 : Int32))), (.int (nar .char (48 : Int32))), (.int (nar .char (57 : Int32))), (.int (nar .char (45 : Int32))), (.int 0), (.int 0), (.int 0), (.int 0), (.int 0), (.int 0), (.int 0), (.int 0), (.int 0), (.int 0), (.int 0), (.int 0), (.int 0), (.int 0), (.int 0), (.int 0), (.int 0), (.int 0), (.int 0), (.int 0), (.int 0), (.int 0), (.int 0), (.int 0), (.int 0), (.int 0), (.int 0), (.int 0), (.int 0), (.int 0), (.int 0), (.int 0), (.int 0), (.int 0), (.int 0), (.int 0), (.int 0), (.int 0), (.int 0), (.int 0), (.int 0), (.int 0), (.int 0), (.int 0), (.int 0), (.int 0), (.int 0), (.int 0), (.int 0), (.int 0)] (.int 0) := Arv.set Ar274 q274 S274 Nn274 Ha274 G274 (fits_nar_char _) W274 14 rfl (Nat.le_of_ble_eq_true rfl)
    have c275 : SS p e below S0 (T274.setTop (mkF m 503 #[vi p0, vi pk, vr uk, vr b21, .unset, .unset, .unset, .unset] [(.ref b225)])) := c273.trans (st274 _ (Steps.refl _))
    have N274 := Fr.snoc X274 N271 (Nat.le_trans Z0 ge228)
    have z274 : n0 ≤ h274.size := Nat.le_trans z271 (Keep.of_wr W274).1
    have K274 := K271.wr W274 (Or.inr ge228)
    have c276 : SS p e below S0 (T274.setTop (mkF m 508 #[vi p0, vi pk, vr uk, vr b21, .unset, .unset, .unset, .unset] [(.int 95), (.int 15), (.ref b225), (.ref b225)])) := c275.trans (by
      show SS p e below (T274.setTop (mkF m 503 #[vi p0, vi pk, vr uk, vr b21, .unset, .unset, .unset, .unset] [(.ref b225)])) _
      refine XS.dup X274.here hx rfl (hb hby at_503) rfl rfl ?_
      refine XS.bipush X274.here hx rfl (hb hby at_504) ?_
      refine XS.bipush X274.here hx rfl (hb hby at_506) ?_
      exact Steps.refl _)
    obtain ⟨cl277, Ar277, q277, S277, Nn277, Ha277, G277⟩ := id V274
    obtain ⟨T277, h277, X277, e277, W277, st277⟩ := stC X274 hx hZ e274 Ar277 (j := (15 : Int32)) (inb_of S277 ⟨by decide, by decide⟩) (g := (mkF m 508 #[vi p0, vi pk, vr uk, vr b21, .unset, .unset, .unset, .unset] [(.int 95), (.int 15), (.ref b225), (.ref b225)])) rfl rfl (hb hby at_508)
    have V277 : Arv Z h277 b225 k225 .char (65 : Int32) [(.int (nar .char (65 : Int32))), (.int (nar .char (98 : Int32))), (.int (nar .char (90 : Int32))), (.int (nar .char (122 : Int32))), (.int (nar .char (48 : Int32))), (.int (nar .char (57 : Int32))), (.int (nar .char (45 : Int32))), (.int (nar .char (95 : Int32))), (.int (nar .char (65 : Int32))), (.int (nar .char (98 : Int32))), (.int (nar .char (90 : Int32))), (.int (nar .char (122 : Int32))), (.int (nar .char (48 : Int32))), (.int (nar .char (57 : Int32))), (.int (nar .char (45 : Int32))), (.int (nar .char (95 : Int32))), (.int 0), (.int 0), (.int 0), (.int 0), (.int 0), (.int 0), (.int 0), (.int 0), (.int 0), (.int 0), (.int 0), (.int 0), (.int 0), (.int 0), (.int 0), (.int 0), (.int 0), (.int 0), (.int 0), (.int 0), (.int 0), (.int 0), (.int 0), (.int 0), (.int 0), (.int 0), (.int 0), (.int 0), (.int 0), (.int 0), (.int 0), (.int 0), (.int 0), (.int 0), (.int 0), (.int 0), (.int 0), (.int 0), (.int 0), (.int 0), (.int 0), (.int 0), (.int 0), (.int 0), (.int 0), (.int 0), (.int 0), (.int 0), (.int 0)] (.int 0) := Arv.set Ar277 q277 S277 Nn277 Ha277 G277 (fits_nar_char _) W277 15 rfl (Nat.le_of_ble_eq_true rfl)
    have c278 : SS p e below S0 (T277.setTop (mkF m 509 #[vi p0, vi pk, vr uk, vr b21, .unset, .unset, .unset, .unset] [(.ref b225)])) := c276.trans (st277 _ (Steps.refl _))
    have N277 := Fr.snoc X277 N274 (Nat.le_trans Z0 ge228)
    have z277 : n0 ≤ h277.size := Nat.le_trans z274 (Keep.of_wr W277).1
    have K277 := K274.wr W277 (Or.inr ge228)
    exact ⟨T277, _, _, N277, X277, e277, K277, z277, ((((((((O229.wr W256 (Nat.le_trans Z0 ge228)).wr W259 (Nat.le_trans Z0 ge228)).wr W262 (Nat.le_trans Z0 ge228)).wr W265 (Nat.le_trans Z0 ge228)).wr W268 (Nat.le_trans Z0 ge228)).wr W271 (Nat.le_trans Z0 ge228)).wr W274 (Nat.le_trans Z0 ge228)).wr W277 (Nat.le_trans Z0 ge228)), ((((((((V229_b21.other W256 ne227).other W259 ne227).other W262 ne227).other W265 ne227).other W268 ne227).other W271 ne227).other W274 ne227).other W277 ne227), V277, c278⟩
  obtain ⟨T279, h279, l279, N279, X279, e279, K279, z279, O279, V279_b21, V279_b225, c279⟩ : ∃ (T : State) (h : Heap) (locs : List Loc), Fr n0 locs ∧ Stand p l e room_1 s m #[(.int p0)] below meth c T locs 2 129 ∧ T.heap = h ∧ Keep h0 h [] ∧ n0 ≤ h.size ∧ Old Z n0 h ∧ Arv Z h b21 k21 .char (64 : Int32) [(.int (nar .char (65 : Int32))), (.int (nar .char (98 : Int32))), (.int (nar .char (90 : Int32))), (.int (nar .char (122 : Int32))), (.int (nar .char (48 : Int32))), (.int (nar .char (57 : Int32))), (.int (nar .char (45 : Int32))), (.int (nar .char (95 : Int32))), (.int (nar .char (65 : Int32))), (.int (nar .char (98 : Int32))), (.int (nar .char (90 : Int32))), (.int (nar .char (122 : Int32))), (.int (nar .char (48 : Int32))), (.int (nar .char (57 : Int32))), (.int (nar .char (45 : Int32))), (.int (nar .char (95 : Int32))), (.int (nar .char (65 : Int32))), (.int (nar .char (98 : Int32))), (.int (nar .char (90 : Int32))), (.int (nar .char (122 : Int32))), (.int (nar .char (48 : Int32))), (.int (nar .char (57 : Int32))), (.int (nar .char (45 : Int32))), (.int (nar .char (95 : Int32))), (.int (nar .char (65 : Int32))), (.int (nar .char (98 : Int32))), (.int (nar .char (90 : Int32))), (.int (nar .char (122 : Int32))), (.int (nar .char (48 : Int32))), (.int (nar .char (57 : Int32))), (.int (nar .char (45 : Int32))), (.int (nar .char (95 : Int32))), (.int (nar .char (65 : Int32))), (.int (nar .char (98 : Int32))), (.int (nar .char (90 : Int32))), (.int (nar .char (122 : Int32))), (.int (nar .char (48 : Int32))), (.int (nar .char (57 : Int32))), (.int (nar .char (45 : Int32))), (.int (nar .char (95 : Int32))), (.int (nar .char (65 : Int32))), (.int (nar .char (98 : Int32))), (.int (nar .char (90 : Int32))), (.int (nar .char (122 : Int32))), (.int (nar .char (48 : Int32))), (.int (nar .char (57 : Int32))), (.int (nar .char (45 : Int32))), (.int (nar .char (95 : Int32))), (.int (nar .char (65 : Int32))), (.int (nar .char (98 : Int32))), (.int (nar .char (90 : Int32))), (.int (nar .char (122 : Int32))), (.int (nar .char (48 : Int32))), (.int (nar .char (57 : Int32))), (.int (nar .char (45 : Int32))), (.int (nar .char (95 : Int32))), (.int (nar .char (65 : Int32))), (.int (nar .char (98 : Int32))), (.int (nar .char (90 : Int32))), (.int (nar .char (122 : Int32))), (.int (nar .char (48 : Int32))), (.int (nar .char (57 : Int32))), (.int (nar .char (45 : Int32))), (.int (nar .char (95 : Int32)))] (.int 0) ∧ Arv Z h b225 k225 .char (65 : Int32) [(.int (nar .char (65 : Int32))), (.int (nar .char (98 : Int32))), (.int (nar .char (90 : Int32))), (.int (nar .char (122 : Int32))), (.int (nar .char (48 : Int32))), (.int (nar .char (57 : Int32))), (.int (nar .char (45 : Int32))), (.int (nar .char (95 : Int32))), (.int (nar .char (65 : Int32))), (.int (nar .char (98 : Int32))), (.int (nar .char (90 : Int32))), (.int (nar .char (122 : Int32))), (.int (nar .char (48 : Int32))), (.int (nar .char (57 : Int32))), (.int (nar .char (45 : Int32))), (.int (nar .char (95 : Int32))), (.int (nar .char (65 : Int32))), (.int (nar .char (98 : Int32))), (.int (nar .char (90 : Int32))), (.int (nar .char (122 : Int32))), (.int (nar .char (48 : Int32))), (.int (nar .char (57 : Int32))), (.int (nar .char (45 : Int32))), (.int (nar .char (95 : Int32))), (.int 0), (.int 0), (.int 0), (.int 0), (.int 0), (.int 0), (.int 0), (.int 0), (.int 0), (.int 0), (.int 0), (.int 0), (.int 0), (.int 0), (.int 0), (.int 0), (.int 0), (.int 0), (.int 0), (.int 0), (.int 0), (.int 0), (.int 0), (.int 0), (.int 0), (.int 0), (.int 0), (.int 0), (.int 0), (.int 0), (.int 0), (.int 0), (.int 0), (.int 0), (.int 0), (.int 0), (.int 0), (.int 0), (.int 0), (.int 0), (.int 0)] (.int 0) ∧ SS p e below S0 (T.setTop (mkF m 557 #[vi p0, vi pk, vr uk, vr b21, .unset, .unset, .unset, .unset] [(.ref b225)])) := by
    have c280 : SS p e below S0 (T254.setTop (mkF m 514 #[vi p0, vi pk, vr uk, vr b21, .unset, .unset, .unset, .unset] [(.int 65), (.int 16), (.ref b225), (.ref b225)])) := c254.trans (by
      show SS p e below (T254.setTop (mkF m 509 #[vi p0, vi pk, vr uk, vr b21, .unset, .unset, .unset, .unset] [(.ref b225)])) _
      refine XS.dup X254.here hx rfl (hb hby at_509) rfl rfl ?_
      refine XS.bipush X254.here hx rfl (hb hby at_510) ?_
      refine XS.bipush X254.here hx rfl (hb hby at_512) ?_
      exact Steps.refl _)
    obtain ⟨cl281, Ar281, q281, S281, Nn281, Ha281, G281⟩ := id V254_b225
    obtain ⟨T281, h281, X281, e281, W281, st281⟩ := stC X254 hx hZ e254 Ar281 (j := (16 : Int32)) (inb_of S281 ⟨by decide, by decide⟩) (g := (mkF m 514 #[vi p0, vi pk, vr uk, vr b21, .unset, .unset, .unset, .unset] [(.int 65), (.int 16), (.ref b225), (.ref b225)])) rfl rfl (hb hby at_514)
    have V281 : Arv Z h281 b225 k225 .char (65 : Int32) [(.int (nar .char (65 : Int32))), (.int (nar .char (98 : Int32))), (.int (nar .char (90 : Int32))), (.int (nar .char (122 : Int32))), (.int (nar .char (48 : Int32))), (.int (nar .char (57 : Int32))), (.int (nar .char (45 : Int32))), (.int (nar .char (95 : Int32))), (.int (nar .char (65 : Int32))), (.int (nar .char (98 : Int32))), (.int (nar .char (90 : Int32))), (.int (nar .char (122 : Int32))), (.int (nar .char (48 : Int32))), (.int (nar .char (57 : Int32))), (.int (nar .char (45 : Int32))), (.int (nar .char (95 : Int32))), (.int (nar .char (65 : Int32))), (.int 0), (.int 0), (.int 0), (.int 0), (.int 0), (.int 0), (.int 0), (.int 0), (.int 0), (.int 0), (.int 0), (.int 0), (.int 0), (.int 0), (.int 0), (.int 0), (.int 0), (.int 0), (.int 0), (.int 0), (.int 0), (.int 0), (.int 0), (.int 0), (.int 0), (.int 0), (.int 0), (.int 0), (.int 0), (.int 0), (.int 0), (.int 0), (.int 0), (.int 0), (.int 0), (.int 0), (.int 0), (.int 0), (.int 0), (.int 0), (.int 0), (.int 0), (.int 0), (.int 0), (.int 0), (.int 0), (.int 0), (.int 0)] (.int 0) := Arv.set Ar281 q281 S281 Nn281 Ha281 G281 (fits_nar_char _) W281 16 rfl (Nat.le_of_ble_eq_true rfl)
    have c282 : SS p e below S0 (T281.setTop (mkF m 515 #[vi p0, vi pk, vr uk, vr b21, .unset, .unset, .unset, .unset] [(.ref b225)])) := c280.trans (st281 _ (Steps.refl _))
    have N281 := Fr.snoc X281 N254 (Nat.le_trans Z0 ge228)
    have z281 : n0 ≤ h281.size := Nat.le_trans z254 (Keep.of_wr W281).1
    have K281 := K254.wr W281 (Or.inr ge228)
    have c283 : SS p e below S0 (T281.setTop (mkF m 520 #[vi p0, vi pk, vr uk, vr b21, .unset, .unset, .unset, .unset] [(.int 98), (.int 17), (.ref b225), (.ref b225)])) := c282.trans (by
      show SS p e below (T281.setTop (mkF m 515 #[vi p0, vi pk, vr uk, vr b21, .unset, .unset, .unset, .unset] [(.ref b225)])) _
      refine XS.dup X281.here hx rfl (hb hby at_515) rfl rfl ?_
      refine XS.bipush X281.here hx rfl (hb hby at_516) ?_
      refine XS.bipush X281.here hx rfl (hb hby at_518) ?_
      exact Steps.refl _)
    obtain ⟨cl284, Ar284, q284, S284, Nn284, Ha284, G284⟩ := id V281
    obtain ⟨T284, h284, X284, e284, W284, st284⟩ := stC X281 hx hZ e281 Ar284 (j := (17 : Int32)) (inb_of S284 ⟨by decide, by decide⟩) (g := (mkF m 520 #[vi p0, vi pk, vr uk, vr b21, .unset, .unset, .unset, .unset] [(.int 98), (.int 17), (.ref b225), (.ref b225)])) rfl rfl (hb hby at_520)
    have V284 : Arv Z h284 b225 k225 .char (65 : Int32) [(.int (nar .char (65 : Int32))), (.int (nar .char (98 : Int32))), (.int (nar .char (90 : Int32))), (.int (nar .char (122 : Int32))), (.int (nar .char (48 : Int32))), (.int (nar .char (57 : Int32))), (.int (nar .char (45 : Int32))), (.int (nar .char (95 : Int32))), (.int (nar .char (65 : Int32))), (.int (nar .char (98 : Int32))), (.int (nar .char (90 : Int32))), (.int (nar .char (122 : Int32))), (.int (nar .char (48 : Int32))), (.int (nar .char (57 : Int32))), (.int (nar .char (45 : Int32))), (.int (nar .char (95 : Int32))), (.int (nar .char (65 : Int32))), (.int (nar .char (98 : Int32))), (.int 0), (.int 0), (.int 0), (.int 0), (.int 0), (.int 0), (.int 0), (.int 0), (.int 0), (.int 0), (.int 0), (.int 0), (.int 0), (.int 0), (.int 0), (.int 0), (.int 0), (.int 0), (.int 0), (.int 0), (.int 0), (.int 0), (.int 0), (.int 0), (.int 0), (.int 0), (.int 0), (.int 0), (.int 0), (.int 0), (.int 0), (.int 0), (.int 0), (.int 0), (.int 0), (.int 0), (.int 0), (.int 0), (.int 0), (.int 0), (.int 0), (.int 0), (.int 0), (.int 0), (.int 0), (.int 0), (.int 0)] (.int 0) := Arv.set Ar284 q284 S284 Nn284 Ha284 G284 (fits_nar_char _) W284 17 rfl (Nat.le_of_ble_eq_true rfl)
    have c285 : SS p e below S0 (T284.setTop (mkF m 521 #[vi p0, vi pk, vr uk, vr b21, .unset, .unset, .unset, .unset] [(.ref b225)])) := c283.trans (st284 _ (Steps.refl _))
    have N284 := Fr.snoc X284 N281 (Nat.le_trans Z0 ge228)
    have z284 : n0 ≤ h284.size := Nat.le_trans z281 (Keep.of_wr W284).1
    have K284 := K281.wr W284 (Or.inr ge228)
    have c286 : SS p e below S0 (T284.setTop (mkF m 526 #[vi p0, vi pk, vr uk, vr b21, .unset, .unset, .unset, .unset] [(.int 90), (.int 18), (.ref b225), (.ref b225)])) := c285.trans (by
      show SS p e below (T284.setTop (mkF m 521 #[vi p0, vi pk, vr uk, vr b21, .unset, .unset, .unset, .unset] [(.ref b225)])) _
      refine XS.dup X284.here hx rfl (hb hby at_521) rfl rfl ?_
      refine XS.bipush X284.here hx rfl (hb hby at_522) ?_
      refine XS.bipush X284.here hx rfl (hb hby at_524) ?_
      exact Steps.refl _)
    obtain ⟨cl287, Ar287, q287, S287, Nn287, Ha287, G287⟩ := id V284
    obtain ⟨T287, h287, X287, e287, W287, st287⟩ := stC X284 hx hZ e284 Ar287 (j := (18 : Int32)) (inb_of S287 ⟨by decide, by decide⟩) (g := (mkF m 526 #[vi p0, vi pk, vr uk, vr b21, .unset, .unset, .unset, .unset] [(.int 90), (.int 18), (.ref b225), (.ref b225)])) rfl rfl (hb hby at_526)
    have V287 : Arv Z h287 b225 k225 .char (65 : Int32) [(.int (nar .char (65 : Int32))), (.int (nar .char (98 : Int32))), (.int (nar .char (90 : Int32))), (.int (nar .char (122 : Int32))), (.int (nar .char (48 : Int32))), (.int (nar .char (57 : Int32))), (.int (nar .char (45 : Int32))), (.int (nar .char (95 : Int32))), (.int (nar .char (65 : Int32))), (.int (nar .char (98 : Int32))), (.int (nar .char (90 : Int32))), (.int (nar .char (122 : Int32))), (.int (nar .char (48 : Int32))), (.int (nar .char (57 : Int32))), (.int (nar .char (45 : Int32))), (.int (nar .char (95 : Int32))), (.int (nar .char (65 : Int32))), (.int (nar .char (98 : Int32))), (.int (nar .char (90 : Int32))), (.int 0), (.int 0), (.int 0), (.int 0), (.int 0), (.int 0), (.int 0), (.int 0), (.int 0), (.int 0), (.int 0), (.int 0), (.int 0), (.int 0), (.int 0), (.int 0), (.int 0), (.int 0), (.int 0), (.int 0), (.int 0), (.int 0), (.int 0), (.int 0), (.int 0), (.int 0), (.int 0), (.int 0), (.int 0), (.int 0), (.int 0), (.int 0), (.int 0), (.int 0), (.int 0), (.int 0), (.int 0), (.int 0), (.int 0), (.int 0), (.int 0), (.int 0), (.int 0), (.int 0), (.int 0), (.int 0)] (.int 0) := Arv.set Ar287 q287 S287 Nn287 Ha287 G287 (fits_nar_char _) W287 18 rfl (Nat.le_of_ble_eq_true rfl)
    have c288 : SS p e below S0 (T287.setTop (mkF m 527 #[vi p0, vi pk, vr uk, vr b21, .unset, .unset, .unset, .unset] [(.ref b225)])) := c286.trans (st287 _ (Steps.refl _))
    have N287 := Fr.snoc X287 N284 (Nat.le_trans Z0 ge228)
    have z287 : n0 ≤ h287.size := Nat.le_trans z284 (Keep.of_wr W287).1
    have K287 := K284.wr W287 (Or.inr ge228)
    have c289 : SS p e below S0 (T287.setTop (mkF m 532 #[vi p0, vi pk, vr uk, vr b21, .unset, .unset, .unset, .unset] [(.int 122), (.int 19), (.ref b225), (.ref b225)])) := c288.trans (by
      show SS p e below (T287.setTop (mkF m 527 #[vi p0, vi pk, vr uk, vr b21, .unset, .unset, .unset, .unset] [(.ref b225)])) _
      refine XS.dup X287.here hx rfl (hb hby at_527) rfl rfl ?_
      refine XS.bipush X287.here hx rfl (hb hby at_528) ?_
      refine XS.bipush X287.here hx rfl (hb hby at_530) ?_
      exact Steps.refl _)
    obtain ⟨cl290, Ar290, q290, S290, Nn290, Ha290, G290⟩ := id V287
    obtain ⟨T290, h290, X290, e290, W290, st290⟩ := stC X287 hx hZ e287 Ar290 (j := (19 : Int32)) (inb_of S290 ⟨by decide, by decide⟩) (g := (mkF m 532 #[vi p0, vi pk, vr uk, vr b21, .unset, .unset, .unset, .unset] [(.int 122), (.int 19), (.ref b225), (.ref b225)])) rfl rfl (hb hby at_532)
    have V290 : Arv Z h290 b225 k225 .char (65 : Int32) [(.int (nar .char (65 : Int32))), (.int (nar .char (98 : Int32))), (.int (nar .char (90 : Int32))), (.int (nar .char (122 : Int32))), (.int (nar .char (48 : Int32))), (.int (nar .char (57 : Int32))), (.int (nar .char (45 : Int32))), (.int (nar .char (95 : Int32))), (.int (nar .char (65 : Int32))), (.int (nar .char (98 : Int32))), (.int (nar .char (90 : Int32))), (.int (nar .char (122 : Int32))), (.int (nar .char (48 : Int32))), (.int (nar .char (57 : Int32))), (.int (nar .char (45 : Int32))), (.int (nar .char (95 : Int32))), (.int (nar .char (65 : Int32))), (.int (nar .char (98 : Int32))), (.int (nar .char (90 : Int32))), (.int (nar .char (122 : Int32))), (.int 0), (.int 0), (.int 0), (.int 0), (.int 0), (.int 0), (.int 0), (.int 0), (.int 0), (.int 0), (.int 0), (.int 0), (.int 0), (.int 0), (.int 0), (.int 0), (.int 0), (.int 0), (.int 0), (.int 0), (.int 0), (.int 0), (.int 0), (.int 0), (.int 0), (.int 0), (.int 0), (.int 0), (.int 0), (.int 0), (.int 0), (.int 0), (.int 0), (.int 0), (.int 0), (.int 0), (.int 0), (.int 0), (.int 0), (.int 0), (.int 0), (.int 0), (.int 0), (.int 0), (.int 0)] (.int 0) := Arv.set Ar290 q290 S290 Nn290 Ha290 G290 (fits_nar_char _) W290 19 rfl (Nat.le_of_ble_eq_true rfl)
    have c291 : SS p e below S0 (T290.setTop (mkF m 533 #[vi p0, vi pk, vr uk, vr b21, .unset, .unset, .unset, .unset] [(.ref b225)])) := c289.trans (st290 _ (Steps.refl _))
    have N290 := Fr.snoc X290 N287 (Nat.le_trans Z0 ge228)
    have z290 : n0 ≤ h290.size := Nat.le_trans z287 (Keep.of_wr W290).1
    have K290 := K287.wr W290 (Or.inr ge228)
    have c292 : SS p e below S0 (T290.setTop (mkF m 538 #[vi p0, vi pk, vr uk, vr b21, .unset, .unset, .unset, .unset] [(.int 48), (.int 20), (.ref b225), (.ref b225)])) := c291.trans (by
      show SS p e below (T290.setTop (mkF m 533 #[vi p0, vi pk, vr uk, vr b21, .unset, .unset, .unset, .unset] [(.ref b225)])) _
      refine XS.dup X290.here hx rfl (hb hby at_533) rfl rfl ?_
      refine XS.bipush X290.here hx rfl (hb hby at_534) ?_
      refine XS.bipush X290.here hx rfl (hb hby at_536) ?_
      exact Steps.refl _)
    obtain ⟨cl293, Ar293, q293, S293, Nn293, Ha293, G293⟩ := id V290
    obtain ⟨T293, h293, X293, e293, W293, st293⟩ := stC X290 hx hZ e290 Ar293 (j := (20 : Int32)) (inb_of S293 ⟨by decide, by decide⟩) (g := (mkF m 538 #[vi p0, vi pk, vr uk, vr b21, .unset, .unset, .unset, .unset] [(.int 48), (.int 20), (.ref b225), (.ref b225)])) rfl rfl (hb hby at_538)
    have V293 : Arv Z h293 b225 k225 .char (65 : Int32) [(.int (nar .char (65 : Int32))), (.int (nar .char (98 : Int32))), (.int (nar .char (90 : Int32))), (.int (nar .char (122 : Int32))), (.int (nar .char (48 : Int32))), (.int (nar .char (57 : Int32))), (.int (nar .char (45 : Int32))), (.int (nar .char (95 : Int32))), (.int (nar .char (65 : Int32))), (.int (nar .char (98 : Int32))), (.int (nar .char (90 : Int32))), (.int (nar .char (122 : Int32))), (.int (nar .char (48 : Int32))), (.int (nar .char (57 : Int32))), (.int (nar .char (45 : Int32))), (.int (nar .char (95 : Int32))), (.int (nar .char (65 : Int32))), (.int (nar .char (98 : Int32))), (.int (nar .char (90 : Int32))), (.int (nar .char (122 : Int32))), (.int (nar .char (48 : Int32))), (.int 0), (.int 0), (.int 0), (.int 0), (.int 0), (.int 0), (.int 0), (.int 0), (.int 0), (.int 0), (.int 0), (.int 0), (.int 0), (.int 0), (.int 0), (.int 0), (.int 0), (.int 0), (.int 0), (.int 0), (.int 0), (.int 0), (.int 0), (.int 0), (.int 0), (.int 0), (.int 0), (.int 0), (.int 0), (.int 0), (.int 0), (.int 0), (.int 0), (.int 0), (.int 0), (.int 0), (.int 0), (.int 0), (.int 0), (.int 0), (.int 0), (.int 0), (.int 0), (.int 0)] (.int 0) := Arv.set Ar293 q293 S293 Nn293 Ha293 G293 (fits_nar_char _) W293 20 rfl (Nat.le_of_ble_eq_true rfl)
    have c294 : SS p e below S0 (T293.setTop (mkF m 539 #[vi p0, vi pk, vr uk, vr b21, .unset, .unset, .unset, .unset] [(.ref b225)])) := c292.trans (st293 _ (Steps.refl _))
    have N293 := Fr.snoc X293 N290 (Nat.le_trans Z0 ge228)
    have z293 : n0 ≤ h293.size := Nat.le_trans z290 (Keep.of_wr W293).1
    have K293 := K290.wr W293 (Or.inr ge228)
    have c295 : SS p e below S0 (T293.setTop (mkF m 544 #[vi p0, vi pk, vr uk, vr b21, .unset, .unset, .unset, .unset] [(.int 57), (.int 21), (.ref b225), (.ref b225)])) := c294.trans (by
      show SS p e below (T293.setTop (mkF m 539 #[vi p0, vi pk, vr uk, vr b21, .unset, .unset, .unset, .unset] [(.ref b225)])) _
      refine XS.dup X293.here hx rfl (hb hby at_539) rfl rfl ?_
      refine XS.bipush X293.here hx rfl (hb hby at_540) ?_
      refine XS.bipush X293.here hx rfl (hb hby at_542) ?_
      exact Steps.refl _)
    obtain ⟨cl296, Ar296, q296, S296, Nn296, Ha296, G296⟩ := id V293
    obtain ⟨T296, h296, X296, e296, W296, st296⟩ := stC X293 hx hZ e293 Ar296 (j := (21 : Int32)) (inb_of S296 ⟨by decide, by decide⟩) (g := (mkF m 544 #[vi p0, vi pk, vr uk, vr b21, .unset, .unset, .unset, .unset] [(.int 57), (.int 21), (.ref b225), (.ref b225)])) rfl rfl (hb hby at_544)
    have V296 : Arv Z h296 b225 k225 .char (65 : Int32) [(.int (nar .char (65 : Int32))), (.int (nar .char (98 : Int32))), (.int (nar .char (90 : Int32))), (.int (nar .char (122 : Int32))), (.int (nar .char (48 : Int32))), (.int (nar .char (57 : Int32))), (.int (nar .char (45 : Int32))), (.int (nar .char (95 : Int32))), (.int (nar .char (65 : Int32))), (.int (nar .char (98 : Int32))), (.int (nar .char (90 : Int32))), (.int (nar .char (122 : Int32))), (.int (nar .char (48 : Int32))), (.int (nar .char (57 : Int32))), (.int (nar .char (45 : Int32))), (.int (nar .char (95 : Int32))), (.int (nar .char (65 : Int32))), (.int (nar .char (98 : Int32))), (.int (nar .char (90 : Int32))), (.int (nar .char (122 : Int32))), (.int (nar .char (48 : Int32))), (.int (nar .char (57 : Int32))), (.int 0), (.int 0), (.int 0), (.int 0), (.int 0), (.int 0), (.int 0), (.int 0), (.int 0), (.int 0), (.int 0), (.int 0), (.int 0), (.int 0), (.int 0), (.int 0), (.int 0), (.int 0), (.int 0), (.int 0), (.int 0), (.int 0), (.int 0), (.int 0), (.int 0), (.int 0), (.int 0), (.int 0), (.int 0), (.int 0), (.int 0), (.int 0), (.int 0), (.int 0), (.int 0), (.int 0), (.int 0), (.int 0), (.int 0), (.int 0), (.int 0), (.int 0), (.int 0)] (.int 0) := Arv.set Ar296 q296 S296 Nn296 Ha296 G296 (fits_nar_char _) W296 21 rfl (Nat.le_of_ble_eq_true rfl)
    have c297 : SS p e below S0 (T296.setTop (mkF m 545 #[vi p0, vi pk, vr uk, vr b21, .unset, .unset, .unset, .unset] [(.ref b225)])) := c295.trans (st296 _ (Steps.refl _))
    have N296 := Fr.snoc X296 N293 (Nat.le_trans Z0 ge228)
    have z296 : n0 ≤ h296.size := Nat.le_trans z293 (Keep.of_wr W296).1
    have K296 := K293.wr W296 (Or.inr ge228)
    have c298 : SS p e below S0 (T296.setTop (mkF m 550 #[vi p0, vi pk, vr uk, vr b21, .unset, .unset, .unset, .unset] [(.int 45), (.int 22), (.ref b225), (.ref b225)])) := c297.trans (by
      show SS p e below (T296.setTop (mkF m 545 #[vi p0, vi pk, vr uk, vr b21, .unset, .unset, .unset, .unset] [(.ref b225)])) _
      refine XS.dup X296.here hx rfl (hb hby at_545) rfl rfl ?_
      refine XS.bipush X296.here hx rfl (hb hby at_546) ?_
      refine XS.bipush X296.here hx rfl (hb hby at_548) ?_
      exact Steps.refl _)
    obtain ⟨cl299, Ar299, q299, S299, Nn299, Ha299, G299⟩ := id V296
    obtain ⟨T299, h299, X299, e299, W299, st299⟩ := stC X296 hx hZ e296 Ar299 (j := (22 : Int32)) (inb_of S299 ⟨by decide, by decide⟩) (g := (mkF m 550 #[vi p0, vi pk, vr uk, vr b21, .unset, .unset, .unset, .unset] [(.int 45), (.int 22), (.ref b225), (.ref b225)])) rfl rfl (hb hby at_550)
    have V299 : Arv Z h299 b225 k225 .char (65 : Int32) [(.int (nar .char (65 : Int32))), (.int (nar .char (98 : Int32))), (.int (nar .char (90 : Int32))), (.int (nar .char (122 : Int32))), (.int (nar .char (48 : Int32))), (.int (nar .char (57 : Int32))), (.int (nar .char (45 : Int32))), (.int (nar .char (95 : Int32))), (.int (nar .char (65 : Int32))), (.int (nar .char (98 : Int32))), (.int (nar .char (90 : Int32))), (.int (nar .char (122 : Int32))), (.int (nar .char (48 : Int32))), (.int (nar .char (57 : Int32))), (.int (nar .char (45 : Int32))), (.int (nar .char (95 : Int32))), (.int (nar .char (65 : Int32))), (.int (nar .char (98 : Int32))), (.int (nar .char (90 : Int32))), (.int (nar .char (122 : Int32))), (.int (nar .char (48 : Int32))), (.int (nar .char (57 : Int32))), (.int (nar .char (45 : Int32))), (.int 0), (.int 0), (.int 0), (.int 0), (.int 0), (.int 0), (.int 0), (.int 0), (.int 0), (.int 0), (.int 0), (.int 0), (.int 0), (.int 0), (.int 0), (.int 0), (.int 0), (.int 0), (.int 0), (.int 0), (.int 0), (.int 0), (.int 0), (.int 0), (.int 0), (.int 0), (.int 0), (.int 0), (.int 0), (.int 0), (.int 0), (.int 0), (.int 0), (.int 0), (.int 0), (.int 0), (.int 0), (.int 0), (.int 0), (.int 0), (.int 0), (.int 0)] (.int 0) := Arv.set Ar299 q299 S299 Nn299 Ha299 G299 (fits_nar_char _) W299 22 rfl (Nat.le_of_ble_eq_true rfl)
    have c300 : SS p e below S0 (T299.setTop (mkF m 551 #[vi p0, vi pk, vr uk, vr b21, .unset, .unset, .unset, .unset] [(.ref b225)])) := c298.trans (st299 _ (Steps.refl _))
    have N299 := Fr.snoc X299 N296 (Nat.le_trans Z0 ge228)
    have z299 : n0 ≤ h299.size := Nat.le_trans z296 (Keep.of_wr W299).1
    have K299 := K296.wr W299 (Or.inr ge228)
    have c301 : SS p e below S0 (T299.setTop (mkF m 556 #[vi p0, vi pk, vr uk, vr b21, .unset, .unset, .unset, .unset] [(.int 95), (.int 23), (.ref b225), (.ref b225)])) := c300.trans (by
      show SS p e below (T299.setTop (mkF m 551 #[vi p0, vi pk, vr uk, vr b21, .unset, .unset, .unset, .unset] [(.ref b225)])) _
      refine XS.dup X299.here hx rfl (hb hby at_551) rfl rfl ?_
      refine XS.bipush X299.here hx rfl (hb hby at_552) ?_
      refine XS.bipush X299.here hx rfl (hb hby at_554) ?_
      exact Steps.refl _)
    obtain ⟨cl302, Ar302, q302, S302, Nn302, Ha302, G302⟩ := id V299
    obtain ⟨T302, h302, X302, e302, W302, st302⟩ := stC X299 hx hZ e299 Ar302 (j := (23 : Int32)) (inb_of S302 ⟨by decide, by decide⟩) (g := (mkF m 556 #[vi p0, vi pk, vr uk, vr b21, .unset, .unset, .unset, .unset] [(.int 95), (.int 23), (.ref b225), (.ref b225)])) rfl rfl (hb hby at_556)
    have V302 : Arv Z h302 b225 k225 .char (65 : Int32) [(.int (nar .char (65 : Int32))), (.int (nar .char (98 : Int32))), (.int (nar .char (90 : Int32))), (.int (nar .char (122 : Int32))), (.int (nar .char (48 : Int32))), (.int (nar .char (57 : Int32))), (.int (nar .char (45 : Int32))), (.int (nar .char (95 : Int32))), (.int (nar .char (65 : Int32))), (.int (nar .char (98 : Int32))), (.int (nar .char (90 : Int32))), (.int (nar .char (122 : Int32))), (.int (nar .char (48 : Int32))), (.int (nar .char (57 : Int32))), (.int (nar .char (45 : Int32))), (.int (nar .char (95 : Int32))), (.int (nar .char (65 : Int32))), (.int (nar .char (98 : Int32))), (.int (nar .char (90 : Int32))), (.int (nar .char (122 : Int32))), (.int (nar .char (48 : Int32))), (.int (nar .char (57 : Int32))), (.int (nar .char (45 : Int32))), (.int (nar .char (95 : Int32))), (.int 0), (.int 0), (.int 0), (.int 0), (.int 0), (.int 0), (.int 0), (.int 0), (.int 0), (.int 0), (.int 0), (.int 0), (.int 0), (.int 0), (.int 0), (.int 0), (.int 0), (.int 0), (.int 0), (.int 0), (.int 0), (.int 0), (.int 0), (.int 0), (.int 0), (.int 0), (.int 0), (.int 0), (.int 0), (.int 0), (.int 0), (.int 0), (.int 0), (.int 0), (.int 0), (.int 0), (.int 0), (.int 0), (.int 0), (.int 0), (.int 0)] (.int 0) := Arv.set Ar302 q302 S302 Nn302 Ha302 G302 (fits_nar_char _) W302 23 rfl (Nat.le_of_ble_eq_true rfl)
    have c303 : SS p e below S0 (T302.setTop (mkF m 557 #[vi p0, vi pk, vr uk, vr b21, .unset, .unset, .unset, .unset] [(.ref b225)])) := c301.trans (st302 _ (Steps.refl _))
    have N302 := Fr.snoc X302 N299 (Nat.le_trans Z0 ge228)
    have z302 : n0 ≤ h302.size := Nat.le_trans z299 (Keep.of_wr W302).1
    have K302 := K299.wr W302 (Or.inr ge228)
    exact ⟨T302, _, _, N302, X302, e302, K302, z302, ((((((((O254.wr W281 (Nat.le_trans Z0 ge228)).wr W284 (Nat.le_trans Z0 ge228)).wr W287 (Nat.le_trans Z0 ge228)).wr W290 (Nat.le_trans Z0 ge228)).wr W293 (Nat.le_trans Z0 ge228)).wr W296 (Nat.le_trans Z0 ge228)).wr W299 (Nat.le_trans Z0 ge228)).wr W302 (Nat.le_trans Z0 ge228)), ((((((((V254_b21.other W281 ne227).other W284 ne227).other W287 ne227).other W290 ne227).other W293 ne227).other W296 ne227).other W299 ne227).other W302 ne227), V302, c303⟩
  obtain ⟨T304, h304, l304, N304, X304, e304, K304, z304, O304, V304_b21, V304_b225, c304⟩ : ∃ (T : State) (h : Heap) (locs : List Loc), Fr n0 locs ∧ Stand p l e room_1 s m #[(.int p0)] below meth c T locs 2 129 ∧ T.heap = h ∧ Keep h0 h [] ∧ n0 ≤ h.size ∧ Old Z n0 h ∧ Arv Z h b21 k21 .char (64 : Int32) [(.int (nar .char (65 : Int32))), (.int (nar .char (98 : Int32))), (.int (nar .char (90 : Int32))), (.int (nar .char (122 : Int32))), (.int (nar .char (48 : Int32))), (.int (nar .char (57 : Int32))), (.int (nar .char (45 : Int32))), (.int (nar .char (95 : Int32))), (.int (nar .char (65 : Int32))), (.int (nar .char (98 : Int32))), (.int (nar .char (90 : Int32))), (.int (nar .char (122 : Int32))), (.int (nar .char (48 : Int32))), (.int (nar .char (57 : Int32))), (.int (nar .char (45 : Int32))), (.int (nar .char (95 : Int32))), (.int (nar .char (65 : Int32))), (.int (nar .char (98 : Int32))), (.int (nar .char (90 : Int32))), (.int (nar .char (122 : Int32))), (.int (nar .char (48 : Int32))), (.int (nar .char (57 : Int32))), (.int (nar .char (45 : Int32))), (.int (nar .char (95 : Int32))), (.int (nar .char (65 : Int32))), (.int (nar .char (98 : Int32))), (.int (nar .char (90 : Int32))), (.int (nar .char (122 : Int32))), (.int (nar .char (48 : Int32))), (.int (nar .char (57 : Int32))), (.int (nar .char (45 : Int32))), (.int (nar .char (95 : Int32))), (.int (nar .char (65 : Int32))), (.int (nar .char (98 : Int32))), (.int (nar .char (90 : Int32))), (.int (nar .char (122 : Int32))), (.int (nar .char (48 : Int32))), (.int (nar .char (57 : Int32))), (.int (nar .char (45 : Int32))), (.int (nar .char (95 : Int32))), (.int (nar .char (65 : Int32))), (.int (nar .char (98 : Int32))), (.int (nar .char (90 : Int32))), (.int (nar .char (122 : Int32))), (.int (nar .char (48 : Int32))), (.int (nar .char (57 : Int32))), (.int (nar .char (45 : Int32))), (.int (nar .char (95 : Int32))), (.int (nar .char (65 : Int32))), (.int (nar .char (98 : Int32))), (.int (nar .char (90 : Int32))), (.int (nar .char (122 : Int32))), (.int (nar .char (48 : Int32))), (.int (nar .char (57 : Int32))), (.int (nar .char (45 : Int32))), (.int (nar .char (95 : Int32))), (.int (nar .char (65 : Int32))), (.int (nar .char (98 : Int32))), (.int (nar .char (90 : Int32))), (.int (nar .char (122 : Int32))), (.int (nar .char (48 : Int32))), (.int (nar .char (57 : Int32))), (.int (nar .char (45 : Int32))), (.int (nar .char (95 : Int32)))] (.int 0) ∧ Arv Z h b225 k225 .char (65 : Int32) [(.int (nar .char (65 : Int32))), (.int (nar .char (98 : Int32))), (.int (nar .char (90 : Int32))), (.int (nar .char (122 : Int32))), (.int (nar .char (48 : Int32))), (.int (nar .char (57 : Int32))), (.int (nar .char (45 : Int32))), (.int (nar .char (95 : Int32))), (.int (nar .char (65 : Int32))), (.int (nar .char (98 : Int32))), (.int (nar .char (90 : Int32))), (.int (nar .char (122 : Int32))), (.int (nar .char (48 : Int32))), (.int (nar .char (57 : Int32))), (.int (nar .char (45 : Int32))), (.int (nar .char (95 : Int32))), (.int (nar .char (65 : Int32))), (.int (nar .char (98 : Int32))), (.int (nar .char (90 : Int32))), (.int (nar .char (122 : Int32))), (.int (nar .char (48 : Int32))), (.int (nar .char (57 : Int32))), (.int (nar .char (45 : Int32))), (.int (nar .char (95 : Int32))), (.int (nar .char (65 : Int32))), (.int (nar .char (98 : Int32))), (.int (nar .char (90 : Int32))), (.int (nar .char (122 : Int32))), (.int (nar .char (48 : Int32))), (.int (nar .char (57 : Int32))), (.int (nar .char (45 : Int32))), (.int (nar .char (95 : Int32))), (.int 0), (.int 0), (.int 0), (.int 0), (.int 0), (.int 0), (.int 0), (.int 0), (.int 0), (.int 0), (.int 0), (.int 0), (.int 0), (.int 0), (.int 0), (.int 0), (.int 0), (.int 0), (.int 0), (.int 0), (.int 0), (.int 0), (.int 0), (.int 0), (.int 0), (.int 0), (.int 0), (.int 0), (.int 0), (.int 0), (.int 0), (.int 0), (.int 0)] (.int 0) ∧ SS p e below S0 (T.setTop (mkF m 605 #[vi p0, vi pk, vr uk, vr b21, .unset, .unset, .unset, .unset] [(.ref b225)])) := by
    have c305 : SS p e below S0 (T279.setTop (mkF m 562 #[vi p0, vi pk, vr uk, vr b21, .unset, .unset, .unset, .unset] [(.int 65), (.int 24), (.ref b225), (.ref b225)])) := c279.trans (by
      show SS p e below (T279.setTop (mkF m 557 #[vi p0, vi pk, vr uk, vr b21, .unset, .unset, .unset, .unset] [(.ref b225)])) _
      refine XS.dup X279.here hx rfl (hb hby at_557) rfl rfl ?_
      refine XS.bipush X279.here hx rfl (hb hby at_558) ?_
      refine XS.bipush X279.here hx rfl (hb hby at_560) ?_
      exact Steps.refl _)
    obtain ⟨cl306, Ar306, q306, S306, Nn306, Ha306, G306⟩ := id V279_b225
    obtain ⟨T306, h306, X306, e306, W306, st306⟩ := stC X279 hx hZ e279 Ar306 (j := (24 : Int32)) (inb_of S306 ⟨by decide, by decide⟩) (g := (mkF m 562 #[vi p0, vi pk, vr uk, vr b21, .unset, .unset, .unset, .unset] [(.int 65), (.int 24), (.ref b225), (.ref b225)])) rfl rfl (hb hby at_562)
    have V306 : Arv Z h306 b225 k225 .char (65 : Int32) [(.int (nar .char (65 : Int32))), (.int (nar .char (98 : Int32))), (.int (nar .char (90 : Int32))), (.int (nar .char (122 : Int32))), (.int (nar .char (48 : Int32))), (.int (nar .char (57 : Int32))), (.int (nar .char (45 : Int32))), (.int (nar .char (95 : Int32))), (.int (nar .char (65 : Int32))), (.int (nar .char (98 : Int32))), (.int (nar .char (90 : Int32))), (.int (nar .char (122 : Int32))), (.int (nar .char (48 : Int32))), (.int (nar .char (57 : Int32))), (.int (nar .char (45 : Int32))), (.int (nar .char (95 : Int32))), (.int (nar .char (65 : Int32))), (.int (nar .char (98 : Int32))), (.int (nar .char (90 : Int32))), (.int (nar .char (122 : Int32))), (.int (nar .char (48 : Int32))), (.int (nar .char (57 : Int32))), (.int (nar .char (45 : Int32))), (.int (nar .char (95 : Int32))), (.int (nar .char (65 : Int32))), (.int 0), (.int 0), (.int 0), (.int 0), (.int 0), (.int 0), (.int 0), (.int 0), (.int 0), (.int 0), (.int 0), (.int 0), (.int 0), (.int 0), (.int 0), (.int 0), (.int 0), (.int 0), (.int 0), (.int 0), (.int 0), (.int 0), (.int 0), (.int 0), (.int 0), (.int 0), (.int 0), (.int 0), (.int 0), (.int 0), (.int 0), (.int 0), (.int 0), (.int 0), (.int 0), (.int 0), (.int 0), (.int 0), (.int 0), (.int 0)] (.int 0) := Arv.set Ar306 q306 S306 Nn306 Ha306 G306 (fits_nar_char _) W306 24 rfl (Nat.le_of_ble_eq_true rfl)
    have c307 : SS p e below S0 (T306.setTop (mkF m 563 #[vi p0, vi pk, vr uk, vr b21, .unset, .unset, .unset, .unset] [(.ref b225)])) := c305.trans (st306 _ (Steps.refl _))
    have N306 := Fr.snoc X306 N279 (Nat.le_trans Z0 ge228)
    have z306 : n0 ≤ h306.size := Nat.le_trans z279 (Keep.of_wr W306).1
    have K306 := K279.wr W306 (Or.inr ge228)
    have c308 : SS p e below S0 (T306.setTop (mkF m 568 #[vi p0, vi pk, vr uk, vr b21, .unset, .unset, .unset, .unset] [(.int 98), (.int 25), (.ref b225), (.ref b225)])) := c307.trans (by
      show SS p e below (T306.setTop (mkF m 563 #[vi p0, vi pk, vr uk, vr b21, .unset, .unset, .unset, .unset] [(.ref b225)])) _
      refine XS.dup X306.here hx rfl (hb hby at_563) rfl rfl ?_
      refine XS.bipush X306.here hx rfl (hb hby at_564) ?_
      refine XS.bipush X306.here hx rfl (hb hby at_566) ?_
      exact Steps.refl _)
    obtain ⟨cl309, Ar309, q309, S309, Nn309, Ha309, G309⟩ := id V306
    obtain ⟨T309, h309, X309, e309, W309, st309⟩ := stC X306 hx hZ e306 Ar309 (j := (25 : Int32)) (inb_of S309 ⟨by decide, by decide⟩) (g := (mkF m 568 #[vi p0, vi pk, vr uk, vr b21, .unset, .unset, .unset, .unset] [(.int 98), (.int 25), (.ref b225), (.ref b225)])) rfl rfl (hb hby at_568)
    have V309 : Arv Z h309 b225 k225 .char (65 : Int32) [(.int (nar .char (65 : Int32))), (.int (nar .char (98 : Int32))), (.int (nar .char (90 : Int32))), (.int (nar .char (122 : Int32))), (.int (nar .char (48 : Int32))), (.int (nar .char (57 : Int32))), (.int (nar .char (45 : Int32))), (.int (nar .char (95 : Int32))), (.int (nar .char (65 : Int32))), (.int (nar .char (98 : Int32))), (.int (nar .char (90 : Int32))), (.int (nar .char (122 : Int32))), (.int (nar .char (48 : Int32))), (.int (nar .char (57 : Int32))), (.int (nar .char (45 : Int32))), (.int (nar .char (95 : Int32))), (.int (nar .char (65 : Int32))), (.int (nar .char (98 : Int32))), (.int (nar .char (90 : Int32))), (.int (nar .char (122 : Int32))), (.int (nar .char (48 : Int32))), (.int (nar .char (57 : Int32))), (.int (nar .char (45 : Int32))), (.int (nar .char (95 : Int32))), (.int (nar .char (65 : Int32))), (.int (nar .char (98 : Int32))), (.int 0), (.int 0), (.int 0), (.int 0), (.int 0), (.int 0), (.int 0), (.int 0), (.int 0), (.int 0), (.int 0), (.int 0), (.int 0), (.int 0), (.int 0), (.int 0), (.int 0), (.int 0), (.int 0), (.int 0), (.int 0), (.int 0), (.int 0), (.int 0), (.int 0), (.int 0), (.int 0), (.int 0), (.int 0), (.int 0), (.int 0), (.int 0), (.int 0), (.int 0), (.int 0), (.int 0), (.int 0), (.int 0), (.int 0)] (.int 0) := Arv.set Ar309 q309 S309 Nn309 Ha309 G309 (fits_nar_char _) W309 25 rfl (Nat.le_of_ble_eq_true rfl)
    have c310 : SS p e below S0 (T309.setTop (mkF m 569 #[vi p0, vi pk, vr uk, vr b21, .unset, .unset, .unset, .unset] [(.ref b225)])) := c308.trans (st309 _ (Steps.refl _))
    have N309 := Fr.snoc X309 N306 (Nat.le_trans Z0 ge228)
    have z309 : n0 ≤ h309.size := Nat.le_trans z306 (Keep.of_wr W309).1
    have K309 := K306.wr W309 (Or.inr ge228)
    have c311 : SS p e below S0 (T309.setTop (mkF m 574 #[vi p0, vi pk, vr uk, vr b21, .unset, .unset, .unset, .unset] [(.int 90), (.int 26), (.ref b225), (.ref b225)])) := c310.trans (by
      show SS p e below (T309.setTop (mkF m 569 #[vi p0, vi pk, vr uk, vr b21, .unset, .unset, .unset, .unset] [(.ref b225)])) _
      refine XS.dup X309.here hx rfl (hb hby at_569) rfl rfl ?_
      refine XS.bipush X309.here hx rfl (hb hby at_570) ?_
      refine XS.bipush X309.here hx rfl (hb hby at_572) ?_
      exact Steps.refl _)
    obtain ⟨cl312, Ar312, q312, S312, Nn312, Ha312, G312⟩ := id V309
    obtain ⟨T312, h312, X312, e312, W312, st312⟩ := stC X309 hx hZ e309 Ar312 (j := (26 : Int32)) (inb_of S312 ⟨by decide, by decide⟩) (g := (mkF m 574 #[vi p0, vi pk, vr uk, vr b21, .unset, .unset, .unset, .unset] [(.int 90), (.int 26), (.ref b225), (.ref b225)])) rfl rfl (hb hby at_574)
    have V312 : Arv Z h312 b225 k225 .char (65 : Int32) [(.int (nar .char (65 : Int32))), (.int (nar .char (98 : Int32))), (.int (nar .char (90 : Int32))), (.int (nar .char (122 : Int32))), (.int (nar .char (48 : Int32))), (.int (nar .char (57 : Int32))), (.int (nar .char (45 : Int32))), (.int (nar .char (95 : Int32))), (.int (nar .char (65 : Int32))), (.int (nar .char (98 : Int32))), (.int (nar .char (90 : Int32))), (.int (nar .char (122 : Int32))), (.int (nar .char (48 : Int32))), (.int (nar .char (57 : Int32))), (.int (nar .char (45 : Int32))), (.int (nar .char (95 : Int32))), (.int (nar .char (65 : Int32))), (.int (nar .char (98 : Int32))), (.int (nar .char (90 : Int32))), (.int (nar .char (122 : Int32))), (.int (nar .char (48 : Int32))), (.int (nar .char (57 : Int32))), (.int (nar .char (45 : Int32))), (.int (nar .char (95 : Int32))), (.int (nar .char (65 : Int32))), (.int (nar .char (98 : Int32))), (.int (nar .char (90 : Int32))), (.int 0), (.int 0), (.int 0), (.int 0), (.int 0), (.int 0), (.int 0), (.int 0), (.int 0), (.int 0), (.int 0), (.int 0), (.int 0), (.int 0), (.int 0), (.int 0), (.int 0), (.int 0), (.int 0), (.int 0), (.int 0), (.int 0), (.int 0), (.int 0), (.int 0), (.int 0), (.int 0), (.int 0), (.int 0), (.int 0), (.int 0), (.int 0), (.int 0), (.int 0), (.int 0), (.int 0), (.int 0), (.int 0)] (.int 0) := Arv.set Ar312 q312 S312 Nn312 Ha312 G312 (fits_nar_char _) W312 26 rfl (Nat.le_of_ble_eq_true rfl)
    have c313 : SS p e below S0 (T312.setTop (mkF m 575 #[vi p0, vi pk, vr uk, vr b21, .unset, .unset, .unset, .unset] [(.ref b225)])) := c311.trans (st312 _ (Steps.refl _))
    have N312 := Fr.snoc X312 N309 (Nat.le_trans Z0 ge228)
    have z312 : n0 ≤ h312.size := Nat.le_trans z309 (Keep.of_wr W312).1
    have K312 := K309.wr W312 (Or.inr ge228)
    have c314 : SS p e below S0 (T312.setTop (mkF m 580 #[vi p0, vi pk, vr uk, vr b21, .unset, .unset, .unset, .unset] [(.int 122), (.int 27), (.ref b225), (.ref b225)])) := c313.trans (by
      show SS p e below (T312.setTop (mkF m 575 #[vi p0, vi pk, vr uk, vr b21, .unset, .unset, .unset, .unset] [(.ref b225)])) _
      refine XS.dup X312.here hx rfl (hb hby at_575) rfl rfl ?_
      refine XS.bipush X312.here hx rfl (hb hby at_576) ?_
      refine XS.bipush X312.here hx rfl (hb hby at_578) ?_
      exact Steps.refl _)
    obtain ⟨cl315, Ar315, q315, S315, Nn315, Ha315, G315⟩ := id V312
    obtain ⟨T315, h315, X315, e315, W315, st315⟩ := stC X312 hx hZ e312 Ar315 (j := (27 : Int32)) (inb_of S315 ⟨by decide, by decide⟩) (g := (mkF m 580 #[vi p0, vi pk, vr uk, vr b21, .unset, .unset, .unset, .unset] [(.int 122), (.int 27), (.ref b225), (.ref b225)])) rfl rfl (hb hby at_580)
    have V315 : Arv Z h315 b225 k225 .char (65 : Int32) [(.int (nar .char (65 : Int32))), (.int (nar .char (98 : Int32))), (.int (nar .char (90 : Int32))), (.int (nar .char (122 : Int32))), (.int (nar .char (48 : Int32))), (.int (nar .char (57 : Int32))), (.int (nar .char (45 : Int32))), (.int (nar .char (95 : Int32))), (.int (nar .char (65 : Int32))), (.int (nar .char (98 : Int32))), (.int (nar .char (90 : Int32))), (.int (nar .char (122 : Int32))), (.int (nar .char (48 : Int32))), (.int (nar .char (57 : Int32))), (.int (nar .char (45 : Int32))), (.int (nar .char (95 : Int32))), (.int (nar .char (65 : Int32))), (.int (nar .char (98 : Int32))), (.int (nar .char (90 : Int32))), (.int (nar .char (122 : Int32))), (.int (nar .char (48 : Int32))), (.int (nar .char (57 : Int32))), (.int (nar .char (45 : Int32))), (.int (nar .char (95 : Int32))), (.int (nar .char (65 : Int32))), (.int (nar .char (98 : Int32))), (.int (nar .char (90 : Int32))), (.int (nar .char (122 : Int32))), (.int 0), (.int 0), (.int 0), (.int 0), (.int 0), (.int 0), (.int 0), (.int 0), (.int 0), (.int 0), (.int 0), (.int 0), (.int 0), (.int 0), (.int 0), (.int 0), (.int 0), (.int 0), (.int 0), (.int 0), (.int 0), (.int 0), (.int 0), (.int 0), (.int 0), (.int 0), (.int 0), (.int 0), (.int 0), (.int 0), (.int 0), (.int 0), (.int 0), (.int 0), (.int 0), (.int 0), (.int 0)] (.int 0) := Arv.set Ar315 q315 S315 Nn315 Ha315 G315 (fits_nar_char _) W315 27 rfl (Nat.le_of_ble_eq_true rfl)
    have c316 : SS p e below S0 (T315.setTop (mkF m 581 #[vi p0, vi pk, vr uk, vr b21, .unset, .unset, .unset, .unset] [(.ref b225)])) := c314.trans (st315 _ (Steps.refl _))
    have N315 := Fr.snoc X315 N312 (Nat.le_trans Z0 ge228)
    have z315 : n0 ≤ h315.size := Nat.le_trans z312 (Keep.of_wr W315).1
    have K315 := K312.wr W315 (Or.inr ge228)
    have c317 : SS p e below S0 (T315.setTop (mkF m 586 #[vi p0, vi pk, vr uk, vr b21, .unset, .unset, .unset, .unset] [(.int 48), (.int 28), (.ref b225), (.ref b225)])) := c316.trans (by
      show SS p e below (T315.setTop (mkF m 581 #[vi p0, vi pk, vr uk, vr b21, .unset, .unset, .unset, .unset] [(.ref b225)])) _
      refine XS.dup X315.here hx rfl (hb hby at_581) rfl rfl ?_
      refine XS.bipush X315.here hx rfl (hb hby at_582) ?_
      refine XS.bipush X315.here hx rfl (hb hby at_584) ?_
      exact Steps.refl _)
    obtain ⟨cl318, Ar318, q318, S318, Nn318, Ha318, G318⟩ := id V315
    obtain ⟨T318, h318, X318, e318, W318, st318⟩ := stC X315 hx hZ e315 Ar318 (j := (28 : Int32)) (inb_of S318 ⟨by decide, by decide⟩) (g := (mkF m 586 #[vi p0, vi pk, vr uk, vr b21, .unset, .unset, .unset, .unset] [(.int 48), (.int 28), (.ref b225), (.ref b225)])) rfl rfl (hb hby at_586)
    have V318 : Arv Z h318 b225 k225 .char (65 : Int32) [(.int (nar .char (65 : Int32))), (.int (nar .char (98 : Int32))), (.int (nar .char (90 : Int32))), (.int (nar .char (122 : Int32))), (.int (nar .char (48 : Int32))), (.int (nar .char (57 : Int32))), (.int (nar .char (45 : Int32))), (.int (nar .char (95 : Int32))), (.int (nar .char (65 : Int32))), (.int (nar .char (98 : Int32))), (.int (nar .char (90 : Int32))), (.int (nar .char (122 : Int32))), (.int (nar .char (48 : Int32))), (.int (nar .char (57 : Int32))), (.int (nar .char (45 : Int32))), (.int (nar .char (95 : Int32))), (.int (nar .char (65 : Int32))), (.int (nar .char (98 : Int32))), (.int (nar .char (90 : Int32))), (.int (nar .char (122 : Int32))), (.int (nar .char (48 : Int32))), (.int (nar .char (57 : Int32))), (.int (nar .char (45 : Int32))), (.int (nar .char (95 : Int32))), (.int (nar .char (65 : Int32))), (.int (nar .char (98 : Int32))), (.int (nar .char (90 : Int32))), (.int (nar .char (122 : Int32))), (.int (nar .char (48 : Int32))), (.int 0), (.int 0), (.int 0), (.int 0), (.int 0), (.int 0), (.int 0), (.int 0), (.int 0), (.int 0), (.int 0), (.int 0), (.int 0), (.int 0), (.int 0), (.int 0), (.int 0), (.int 0), (.int 0), (.int 0), (.int 0), (.int 0), (.int 0), (.int 0), (.int 0), (.int 0), (.int 0), (.int 0), (.int 0), (.int 0), (.int 0), (.int 0), (.int 0), (.int 0), (.int 0), (.int 0)] (.int 0) := Arv.set Ar318 q318 S318 Nn318 Ha318 G318 (fits_nar_char _) W318 28 rfl (Nat.le_of_ble_eq_true rfl)
    have c319 : SS p e below S0 (T318.setTop (mkF m 587 #[vi p0, vi pk, vr uk, vr b21, .unset, .unset, .unset, .unset] [(.ref b225)])) := c317.trans (st318 _ (Steps.refl _))
    have N318 := Fr.snoc X318 N315 (Nat.le_trans Z0 ge228)
    have z318 : n0 ≤ h318.size := Nat.le_trans z315 (Keep.of_wr W318).1
    have K318 := K315.wr W318 (Or.inr ge228)
    have c320 : SS p e below S0 (T318.setTop (mkF m 592 #[vi p0, vi pk, vr uk, vr b21, .unset, .unset, .unset, .unset] [(.int 57), (.int 29), (.ref b225), (.ref b225)])) := c319.trans (by
      show SS p e below (T318.setTop (mkF m 587 #[vi p0, vi pk, vr uk, vr b21, .unset, .unset, .unset, .unset] [(.ref b225)])) _
      refine XS.dup X318.here hx rfl (hb hby at_587) rfl rfl ?_
      refine XS.bipush X318.here hx rfl (hb hby at_588) ?_
      refine XS.bipush X318.here hx rfl (hb hby at_590) ?_
      exact Steps.refl _)
    obtain ⟨cl321, Ar321, q321, S321, Nn321, Ha321, G321⟩ := id V318
    obtain ⟨T321, h321, X321, e321, W321, st321⟩ := stC X318 hx hZ e318 Ar321 (j := (29 : Int32)) (inb_of S321 ⟨by decide, by decide⟩) (g := (mkF m 592 #[vi p0, vi pk, vr uk, vr b21, .unset, .unset, .unset, .unset] [(.int 57), (.int 29), (.ref b225), (.ref b225)])) rfl rfl (hb hby at_592)
    have V321 : Arv Z h321 b225 k225 .char (65 : Int32) [(.int (nar .char (65 : Int32))), (.int (nar .char (98 : Int32))), (.int (nar .char (90 : Int32))), (.int (nar .char (122 : Int32))), (.int (nar .char (48 : Int32))), (.int (nar .char (57 : Int32))), (.int (nar .char (45 : Int32))), (.int (nar .char (95 : Int32))), (.int (nar .char (65 : Int32))), (.int (nar .char (98 : Int32))), (.int (nar .char (90 : Int32))), (.int (nar .char (122 : Int32))), (.int (nar .char (48 : Int32))), (.int (nar .char (57 : Int32))), (.int (nar .char (45 : Int32))), (.int (nar .char (95 : Int32))), (.int (nar .char (65 : Int32))), (.int (nar .char (98 : Int32))), (.int (nar .char (90 : Int32))), (.int (nar .char (122 : Int32))), (.int (nar .char (48 : Int32))), (.int (nar .char (57 : Int32))), (.int (nar .char (45 : Int32))), (.int (nar .char (95 : Int32))), (.int (nar .char (65 : Int32))), (.int (nar .char (98 : Int32))), (.int (nar .char (90 : Int32))), (.int (nar .char (122 : Int32))), (.int (nar .char (48 : Int32))), (.int (nar .char (57 : Int32))), (.int 0), (.int 0), (.int 0), (.int 0), (.int 0), (.int 0), (.int 0), (.int 0), (.int 0), (.int 0), (.int 0), (.int 0), (.int 0), (.int 0), (.int 0), (.int 0), (.int 0), (.int 0), (.int 0), (.int 0), (.int 0), (.int 0), (.int 0), (.int 0), (.int 0), (.int 0), (.int 0), (.int 0), (.int 0), (.int 0), (.int 0), (.int 0), (.int 0), (.int 0), (.int 0)] (.int 0) := Arv.set Ar321 q321 S321 Nn321 Ha321 G321 (fits_nar_char _) W321 29 rfl (Nat.le_of_ble_eq_true rfl)
    have c322 : SS p e below S0 (T321.setTop (mkF m 593 #[vi p0, vi pk, vr uk, vr b21, .unset, .unset, .unset, .unset] [(.ref b225)])) := c320.trans (st321 _ (Steps.refl _))
    have N321 := Fr.snoc X321 N318 (Nat.le_trans Z0 ge228)
    have z321 : n0 ≤ h321.size := Nat.le_trans z318 (Keep.of_wr W321).1
    have K321 := K318.wr W321 (Or.inr ge228)
    have c323 : SS p e below S0 (T321.setTop (mkF m 598 #[vi p0, vi pk, vr uk, vr b21, .unset, .unset, .unset, .unset] [(.int 45), (.int 30), (.ref b225), (.ref b225)])) := c322.trans (by
      show SS p e below (T321.setTop (mkF m 593 #[vi p0, vi pk, vr uk, vr b21, .unset, .unset, .unset, .unset] [(.ref b225)])) _
      refine XS.dup X321.here hx rfl (hb hby at_593) rfl rfl ?_
      refine XS.bipush X321.here hx rfl (hb hby at_594) ?_
      refine XS.bipush X321.here hx rfl (hb hby at_596) ?_
      exact Steps.refl _)
    obtain ⟨cl324, Ar324, q324, S324, Nn324, Ha324, G324⟩ := id V321
    obtain ⟨T324, h324, X324, e324, W324, st324⟩ := stC X321 hx hZ e321 Ar324 (j := (30 : Int32)) (inb_of S324 ⟨by decide, by decide⟩) (g := (mkF m 598 #[vi p0, vi pk, vr uk, vr b21, .unset, .unset, .unset, .unset] [(.int 45), (.int 30), (.ref b225), (.ref b225)])) rfl rfl (hb hby at_598)
    have V324 : Arv Z h324 b225 k225 .char (65 : Int32) [(.int (nar .char (65 : Int32))), (.int (nar .char (98 : Int32))), (.int (nar .char (90 : Int32))), (.int (nar .char (122 : Int32))), (.int (nar .char (48 : Int32))), (.int (nar .char (57 : Int32))), (.int (nar .char (45 : Int32))), (.int (nar .char (95 : Int32))), (.int (nar .char (65 : Int32))), (.int (nar .char (98 : Int32))), (.int (nar .char (90 : Int32))), (.int (nar .char (122 : Int32))), (.int (nar .char (48 : Int32))), (.int (nar .char (57 : Int32))), (.int (nar .char (45 : Int32))), (.int (nar .char (95 : Int32))), (.int (nar .char (65 : Int32))), (.int (nar .char (98 : Int32))), (.int (nar .char (90 : Int32))), (.int (nar .char (122 : Int32))), (.int (nar .char (48 : Int32))), (.int (nar .char (57 : Int32))), (.int (nar .char (45 : Int32))), (.int (nar .char (95 : Int32))), (.int (nar .char (65 : Int32))), (.int (nar .char (98 : Int32))), (.int (nar .char (90 : Int32))), (.int (nar .char (122 : Int32))), (.int (nar .char (48 : Int32))), (.int (nar .char (57 : Int32))), (.int (nar .char (45 : Int32))), (.int 0), (.int 0), (.int 0), (.int 0), (.int 0), (.int 0), (.int 0), (.int 0), (.int 0), (.int 0), (.int 0), (.int 0), (.int 0), (.int 0), (.int 0), (.int 0), (.int 0), (.int 0), (.int 0), (.int 0), (.int 0), (.int 0), (.int 0), (.int 0), (.int 0), (.int 0), (.int 0), (.int 0), (.int 0), (.int 0), (.int 0), (.int 0), (.int 0), (.int 0)] (.int 0) := Arv.set Ar324 q324 S324 Nn324 Ha324 G324 (fits_nar_char _) W324 30 rfl (Nat.le_of_ble_eq_true rfl)
    have c325 : SS p e below S0 (T324.setTop (mkF m 599 #[vi p0, vi pk, vr uk, vr b21, .unset, .unset, .unset, .unset] [(.ref b225)])) := c323.trans (st324 _ (Steps.refl _))
    have N324 := Fr.snoc X324 N321 (Nat.le_trans Z0 ge228)
    have z324 : n0 ≤ h324.size := Nat.le_trans z321 (Keep.of_wr W324).1
    have K324 := K321.wr W324 (Or.inr ge228)
    have c326 : SS p e below S0 (T324.setTop (mkF m 604 #[vi p0, vi pk, vr uk, vr b21, .unset, .unset, .unset, .unset] [(.int 95), (.int 31), (.ref b225), (.ref b225)])) := c325.trans (by
      show SS p e below (T324.setTop (mkF m 599 #[vi p0, vi pk, vr uk, vr b21, .unset, .unset, .unset, .unset] [(.ref b225)])) _
      refine XS.dup X324.here hx rfl (hb hby at_599) rfl rfl ?_
      refine XS.bipush X324.here hx rfl (hb hby at_600) ?_
      refine XS.bipush X324.here hx rfl (hb hby at_602) ?_
      exact Steps.refl _)
    obtain ⟨cl327, Ar327, q327, S327, Nn327, Ha327, G327⟩ := id V324
    obtain ⟨T327, h327, X327, e327, W327, st327⟩ := stC X324 hx hZ e324 Ar327 (j := (31 : Int32)) (inb_of S327 ⟨by decide, by decide⟩) (g := (mkF m 604 #[vi p0, vi pk, vr uk, vr b21, .unset, .unset, .unset, .unset] [(.int 95), (.int 31), (.ref b225), (.ref b225)])) rfl rfl (hb hby at_604)
    have V327 : Arv Z h327 b225 k225 .char (65 : Int32) [(.int (nar .char (65 : Int32))), (.int (nar .char (98 : Int32))), (.int (nar .char (90 : Int32))), (.int (nar .char (122 : Int32))), (.int (nar .char (48 : Int32))), (.int (nar .char (57 : Int32))), (.int (nar .char (45 : Int32))), (.int (nar .char (95 : Int32))), (.int (nar .char (65 : Int32))), (.int (nar .char (98 : Int32))), (.int (nar .char (90 : Int32))), (.int (nar .char (122 : Int32))), (.int (nar .char (48 : Int32))), (.int (nar .char (57 : Int32))), (.int (nar .char (45 : Int32))), (.int (nar .char (95 : Int32))), (.int (nar .char (65 : Int32))), (.int (nar .char (98 : Int32))), (.int (nar .char (90 : Int32))), (.int (nar .char (122 : Int32))), (.int (nar .char (48 : Int32))), (.int (nar .char (57 : Int32))), (.int (nar .char (45 : Int32))), (.int (nar .char (95 : Int32))), (.int (nar .char (65 : Int32))), (.int (nar .char (98 : Int32))), (.int (nar .char (90 : Int32))), (.int (nar .char (122 : Int32))), (.int (nar .char (48 : Int32))), (.int (nar .char (57 : Int32))), (.int (nar .char (45 : Int32))), (.int (nar .char (95 : Int32))), (.int 0), (.int 0), (.int 0), (.int 0), (.int 0), (.int 0), (.int 0), (.int 0), (.int 0), (.int 0), (.int 0), (.int 0), (.int 0), (.int 0), (.int 0), (.int 0), (.int 0), (.int 0), (.int 0), (.int 0), (.int 0), (.int 0), (.int 0), (.int 0), (.int 0), (.int 0), (.int 0), (.int 0), (.int 0), (.int 0), (.int 0), (.int 0), (.int 0)] (.int 0) := Arv.set Ar327 q327 S327 Nn327 Ha327 G327 (fits_nar_char _) W327 31 rfl (Nat.le_of_ble_eq_true rfl)
    have c328 : SS p e below S0 (T327.setTop (mkF m 605 #[vi p0, vi pk, vr uk, vr b21, .unset, .unset, .unset, .unset] [(.ref b225)])) := c326.trans (st327 _ (Steps.refl _))
    have N327 := Fr.snoc X327 N324 (Nat.le_trans Z0 ge228)
    have z327 : n0 ≤ h327.size := Nat.le_trans z324 (Keep.of_wr W327).1
    have K327 := K324.wr W327 (Or.inr ge228)
    exact ⟨T327, _, _, N327, X327, e327, K327, z327, ((((((((O279.wr W306 (Nat.le_trans Z0 ge228)).wr W309 (Nat.le_trans Z0 ge228)).wr W312 (Nat.le_trans Z0 ge228)).wr W315 (Nat.le_trans Z0 ge228)).wr W318 (Nat.le_trans Z0 ge228)).wr W321 (Nat.le_trans Z0 ge228)).wr W324 (Nat.le_trans Z0 ge228)).wr W327 (Nat.le_trans Z0 ge228)), ((((((((V279_b21.other W306 ne227).other W309 ne227).other W312 ne227).other W315 ne227).other W318 ne227).other W321 ne227).other W324 ne227).other W327 ne227), V327, c328⟩
  obtain ⟨T329, h329, l329, N329, X329, e329, K329, z329, O329, V329_b21, V329_b225, c329⟩ : ∃ (T : State) (h : Heap) (locs : List Loc), Fr n0 locs ∧ Stand p l e room_1 s m #[(.int p0)] below meth c T locs 2 129 ∧ T.heap = h ∧ Keep h0 h [] ∧ n0 ≤ h.size ∧ Old Z n0 h ∧ Arv Z h b21 k21 .char (64 : Int32) [(.int (nar .char (65 : Int32))), (.int (nar .char (98 : Int32))), (.int (nar .char (90 : Int32))), (.int (nar .char (122 : Int32))), (.int (nar .char (48 : Int32))), (.int (nar .char (57 : Int32))), (.int (nar .char (45 : Int32))), (.int (nar .char (95 : Int32))), (.int (nar .char (65 : Int32))), (.int (nar .char (98 : Int32))), (.int (nar .char (90 : Int32))), (.int (nar .char (122 : Int32))), (.int (nar .char (48 : Int32))), (.int (nar .char (57 : Int32))), (.int (nar .char (45 : Int32))), (.int (nar .char (95 : Int32))), (.int (nar .char (65 : Int32))), (.int (nar .char (98 : Int32))), (.int (nar .char (90 : Int32))), (.int (nar .char (122 : Int32))), (.int (nar .char (48 : Int32))), (.int (nar .char (57 : Int32))), (.int (nar .char (45 : Int32))), (.int (nar .char (95 : Int32))), (.int (nar .char (65 : Int32))), (.int (nar .char (98 : Int32))), (.int (nar .char (90 : Int32))), (.int (nar .char (122 : Int32))), (.int (nar .char (48 : Int32))), (.int (nar .char (57 : Int32))), (.int (nar .char (45 : Int32))), (.int (nar .char (95 : Int32))), (.int (nar .char (65 : Int32))), (.int (nar .char (98 : Int32))), (.int (nar .char (90 : Int32))), (.int (nar .char (122 : Int32))), (.int (nar .char (48 : Int32))), (.int (nar .char (57 : Int32))), (.int (nar .char (45 : Int32))), (.int (nar .char (95 : Int32))), (.int (nar .char (65 : Int32))), (.int (nar .char (98 : Int32))), (.int (nar .char (90 : Int32))), (.int (nar .char (122 : Int32))), (.int (nar .char (48 : Int32))), (.int (nar .char (57 : Int32))), (.int (nar .char (45 : Int32))), (.int (nar .char (95 : Int32))), (.int (nar .char (65 : Int32))), (.int (nar .char (98 : Int32))), (.int (nar .char (90 : Int32))), (.int (nar .char (122 : Int32))), (.int (nar .char (48 : Int32))), (.int (nar .char (57 : Int32))), (.int (nar .char (45 : Int32))), (.int (nar .char (95 : Int32))), (.int (nar .char (65 : Int32))), (.int (nar .char (98 : Int32))), (.int (nar .char (90 : Int32))), (.int (nar .char (122 : Int32))), (.int (nar .char (48 : Int32))), (.int (nar .char (57 : Int32))), (.int (nar .char (45 : Int32))), (.int (nar .char (95 : Int32)))] (.int 0) ∧ Arv Z h b225 k225 .char (65 : Int32) [(.int (nar .char (65 : Int32))), (.int (nar .char (98 : Int32))), (.int (nar .char (90 : Int32))), (.int (nar .char (122 : Int32))), (.int (nar .char (48 : Int32))), (.int (nar .char (57 : Int32))), (.int (nar .char (45 : Int32))), (.int (nar .char (95 : Int32))), (.int (nar .char (65 : Int32))), (.int (nar .char (98 : Int32))), (.int (nar .char (90 : Int32))), (.int (nar .char (122 : Int32))), (.int (nar .char (48 : Int32))), (.int (nar .char (57 : Int32))), (.int (nar .char (45 : Int32))), (.int (nar .char (95 : Int32))), (.int (nar .char (65 : Int32))), (.int (nar .char (98 : Int32))), (.int (nar .char (90 : Int32))), (.int (nar .char (122 : Int32))), (.int (nar .char (48 : Int32))), (.int (nar .char (57 : Int32))), (.int (nar .char (45 : Int32))), (.int (nar .char (95 : Int32))), (.int (nar .char (65 : Int32))), (.int (nar .char (98 : Int32))), (.int (nar .char (90 : Int32))), (.int (nar .char (122 : Int32))), (.int (nar .char (48 : Int32))), (.int (nar .char (57 : Int32))), (.int (nar .char (45 : Int32))), (.int (nar .char (95 : Int32))), (.int (nar .char (65 : Int32))), (.int (nar .char (98 : Int32))), (.int (nar .char (90 : Int32))), (.int (nar .char (122 : Int32))), (.int (nar .char (48 : Int32))), (.int (nar .char (57 : Int32))), (.int (nar .char (45 : Int32))), (.int (nar .char (95 : Int32))), (.int 0), (.int 0), (.int 0), (.int 0), (.int 0), (.int 0), (.int 0), (.int 0), (.int 0), (.int 0), (.int 0), (.int 0), (.int 0), (.int 0), (.int 0), (.int 0), (.int 0), (.int 0), (.int 0), (.int 0), (.int 0), (.int 0), (.int 0), (.int 0), (.int 0)] (.int 0) ∧ SS p e below S0 (T.setTop (mkF m 653 #[vi p0, vi pk, vr uk, vr b21, .unset, .unset, .unset, .unset] [(.ref b225)])) := by
    have c330 : SS p e below S0 (T304.setTop (mkF m 610 #[vi p0, vi pk, vr uk, vr b21, .unset, .unset, .unset, .unset] [(.int 65), (.int 32), (.ref b225), (.ref b225)])) := c304.trans (by
      show SS p e below (T304.setTop (mkF m 605 #[vi p0, vi pk, vr uk, vr b21, .unset, .unset, .unset, .unset] [(.ref b225)])) _
      refine XS.dup X304.here hx rfl (hb hby at_605) rfl rfl ?_
      refine XS.bipush X304.here hx rfl (hb hby at_606) ?_
      refine XS.bipush X304.here hx rfl (hb hby at_608) ?_
      exact Steps.refl _)
    obtain ⟨cl331, Ar331, q331, S331, Nn331, Ha331, G331⟩ := id V304_b225
    obtain ⟨T331, h331, X331, e331, W331, st331⟩ := stC X304 hx hZ e304 Ar331 (j := (32 : Int32)) (inb_of S331 ⟨by decide, by decide⟩) (g := (mkF m 610 #[vi p0, vi pk, vr uk, vr b21, .unset, .unset, .unset, .unset] [(.int 65), (.int 32), (.ref b225), (.ref b225)])) rfl rfl (hb hby at_610)
    have V331 : Arv Z h331 b225 k225 .char (65 : Int32) [(.int (nar .char (65 : Int32))), (.int (nar .char (98 : Int32))), (.int (nar .char (90 : Int32))), (.int (nar .char (122 : Int32))), (.int (nar .char (48 : Int32))), (.int (nar .char (57 : Int32))), (.int (nar .char (45 : Int32))), (.int (nar .char (95 : Int32))), (.int (nar .char (65 : Int32))), (.int (nar .char (98 : Int32))), (.int (nar .char (90 : Int32))), (.int (nar .char (122 : Int32))), (.int (nar .char (48 : Int32))), (.int (nar .char (57 : Int32))), (.int (nar .char (45 : Int32))), (.int (nar .char (95 : Int32))), (.int (nar .char (65 : Int32))), (.int (nar .char (98 : Int32))), (.int (nar .char (90 : Int32))), (.int (nar .char (122 : Int32))), (.int (nar .char (48 : Int32))), (.int (nar .char (57 : Int32))), (.int (nar .char (45 : Int32))), (.int (nar .char (95 : Int32))), (.int (nar .char (65 : Int32))), (.int (nar .char (98 : Int32))), (.int (nar .char (90 : Int32))), (.int (nar .char (122 : Int32))), (.int (nar .char (48 : Int32))), (.int (nar .char (57 : Int32))), (.int (nar .char (45 : Int32))), (.int (nar .char (95 : Int32))), (.int (nar .char (65 : Int32))), (.int 0), (.int 0), (.int 0), (.int 0), (.int 0), (.int 0), (.int 0), (.int 0), (.int 0), (.int 0), (.int 0), (.int 0), (.int 0), (.int 0), (.int 0), (.int 0), (.int 0), (.int 0), (.int 0), (.int 0), (.int 0), (.int 0), (.int 0), (.int 0), (.int 0), (.int 0), (.int 0), (.int 0), (.int 0), (.int 0), (.int 0), (.int 0)] (.int 0) := Arv.set Ar331 q331 S331 Nn331 Ha331 G331 (fits_nar_char _) W331 32 rfl (Nat.le_of_ble_eq_true rfl)
    have c332 : SS p e below S0 (T331.setTop (mkF m 611 #[vi p0, vi pk, vr uk, vr b21, .unset, .unset, .unset, .unset] [(.ref b225)])) := c330.trans (st331 _ (Steps.refl _))
    have N331 := Fr.snoc X331 N304 (Nat.le_trans Z0 ge228)
    have z331 : n0 ≤ h331.size := Nat.le_trans z304 (Keep.of_wr W331).1
    have K331 := K304.wr W331 (Or.inr ge228)
    have c333 : SS p e below S0 (T331.setTop (mkF m 616 #[vi p0, vi pk, vr uk, vr b21, .unset, .unset, .unset, .unset] [(.int 98), (.int 33), (.ref b225), (.ref b225)])) := c332.trans (by
      show SS p e below (T331.setTop (mkF m 611 #[vi p0, vi pk, vr uk, vr b21, .unset, .unset, .unset, .unset] [(.ref b225)])) _
      refine XS.dup X331.here hx rfl (hb hby at_611) rfl rfl ?_
      refine XS.bipush X331.here hx rfl (hb hby at_612) ?_
      refine XS.bipush X331.here hx rfl (hb hby at_614) ?_
      exact Steps.refl _)
    obtain ⟨cl334, Ar334, q334, S334, Nn334, Ha334, G334⟩ := id V331
    obtain ⟨T334, h334, X334, e334, W334, st334⟩ := stC X331 hx hZ e331 Ar334 (j := (33 : Int32)) (inb_of S334 ⟨by decide, by decide⟩) (g := (mkF m 616 #[vi p0, vi pk, vr uk, vr b21, .unset, .unset, .unset, .unset] [(.int 98), (.int 33), (.ref b225), (.ref b225)])) rfl rfl (hb hby at_616)
    have V334 : Arv Z h334 b225 k225 .char (65 : Int32) [(.int (nar .char (65 : Int32))), (.int (nar .char (98 : Int32))), (.int (nar .char (90 : Int32))), (.int (nar .char (122 : Int32))), (.int (nar .char (48 : Int32))), (.int (nar .char (57 : Int32))), (.int (nar .char (45 : Int32))), (.int (nar .char (95 : Int32))), (.int (nar .char (65 : Int32))), (.int (nar .char (98 : Int32))), (.int (nar .char (90 : Int32))), (.int (nar .char (122 : Int32))), (.int (nar .char (48 : Int32))), (.int (nar .char (57 : Int32))), (.int (nar .char (45 : Int32))), (.int (nar .char (95 : Int32))), (.int (nar .char (65 : Int32))), (.int (nar .char (98 : Int32))), (.int (nar .char (90 : Int32))), (.int (nar .char (122 : Int32))), (.int (nar .char (48 : Int32))), (.int (nar .char (57 : Int32))), (.int (nar .char (45 : Int32))), (.int (nar .char (95 : Int32))), (.int (nar .char (65 : Int32))), (.int (nar .char (98 : Int32))), (.int (nar .char (90 : Int32))), (.int (nar .char (122 : Int32))), (.int (nar .char (48 : Int32))), (.int (nar .char (57 : Int32))), (.int (nar .char (45 : Int32))), (.int (nar .char (95 : Int32))), (.int (nar .char (65 : Int32))), (.int (nar .char (98 : Int32))), (.int 0), (.int 0), (.int 0), (.int 0), (.int 0), (.int 0), (.int 0), (.int 0), (.int 0), (.int 0), (.int 0), (.int 0), (.int 0), (.int 0), (.int 0), (.int 0), (.int 0), (.int 0), (.int 0), (.int 0), (.int 0), (.int 0), (.int 0), (.int 0), (.int 0), (.int 0), (.int 0), (.int 0), (.int 0), (.int 0), (.int 0)] (.int 0) := Arv.set Ar334 q334 S334 Nn334 Ha334 G334 (fits_nar_char _) W334 33 rfl (Nat.le_of_ble_eq_true rfl)
    have c335 : SS p e below S0 (T334.setTop (mkF m 617 #[vi p0, vi pk, vr uk, vr b21, .unset, .unset, .unset, .unset] [(.ref b225)])) := c333.trans (st334 _ (Steps.refl _))
    have N334 := Fr.snoc X334 N331 (Nat.le_trans Z0 ge228)
    have z334 : n0 ≤ h334.size := Nat.le_trans z331 (Keep.of_wr W334).1
    have K334 := K331.wr W334 (Or.inr ge228)
    have c336 : SS p e below S0 (T334.setTop (mkF m 622 #[vi p0, vi pk, vr uk, vr b21, .unset, .unset, .unset, .unset] [(.int 90), (.int 34), (.ref b225), (.ref b225)])) := c335.trans (by
      show SS p e below (T334.setTop (mkF m 617 #[vi p0, vi pk, vr uk, vr b21, .unset, .unset, .unset, .unset] [(.ref b225)])) _
      refine XS.dup X334.here hx rfl (hb hby at_617) rfl rfl ?_
      refine XS.bipush X334.here hx rfl (hb hby at_618) ?_
      refine XS.bipush X334.here hx rfl (hb hby at_620) ?_
      exact Steps.refl _)
    obtain ⟨cl337, Ar337, q337, S337, Nn337, Ha337, G337⟩ := id V334
    obtain ⟨T337, h337, X337, e337, W337, st337⟩ := stC X334 hx hZ e334 Ar337 (j := (34 : Int32)) (inb_of S337 ⟨by decide, by decide⟩) (g := (mkF m 622 #[vi p0, vi pk, vr uk, vr b21, .unset, .unset, .unset, .unset] [(.int 90), (.int 34), (.ref b225), (.ref b225)])) rfl rfl (hb hby at_622)
    have V337 : Arv Z h337 b225 k225 .char (65 : Int32) [(.int (nar .char (65 : Int32))), (.int (nar .char (98 : Int32))), (.int (nar .char (90 : Int32))), (.int (nar .char (122 : Int32))), (.int (nar .char (48 : Int32))), (.int (nar .char (57 : Int32))), (.int (nar .char (45 : Int32))), (.int (nar .char (95 : Int32))), (.int (nar .char (65 : Int32))), (.int (nar .char (98 : Int32))), (.int (nar .char (90 : Int32))), (.int (nar .char (122 : Int32))), (.int (nar .char (48 : Int32))), (.int (nar .char (57 : Int32))), (.int (nar .char (45 : Int32))), (.int (nar .char (95 : Int32))), (.int (nar .char (65 : Int32))), (.int (nar .char (98 : Int32))), (.int (nar .char (90 : Int32))), (.int (nar .char (122 : Int32))), (.int (nar .char (48 : Int32))), (.int (nar .char (57 : Int32))), (.int (nar .char (45 : Int32))), (.int (nar .char (95 : Int32))), (.int (nar .char (65 : Int32))), (.int (nar .char (98 : Int32))), (.int (nar .char (90 : Int32))), (.int (nar .char (122 : Int32))), (.int (nar .char (48 : Int32))), (.int (nar .char (57 : Int32))), (.int (nar .char (45 : Int32))), (.int (nar .char (95 : Int32))), (.int (nar .char (65 : Int32))), (.int (nar .char (98 : Int32))), (.int (nar .char (90 : Int32))), (.int 0), (.int 0), (.int 0), (.int 0), (.int 0), (.int 0), (.int 0), (.int 0), (.int 0), (.int 0), (.int 0), (.int 0), (.int 0), (.int 0), (.int 0), (.int 0), (.int 0), (.int 0), (.int 0), (.int 0), (.int 0), (.int 0), (.int 0), (.int 0), (.int 0), (.int 0), (.int 0), (.int 0), (.int 0), (.int 0)] (.int 0) := Arv.set Ar337 q337 S337 Nn337 Ha337 G337 (fits_nar_char _) W337 34 rfl (Nat.le_of_ble_eq_true rfl)
    have c338 : SS p e below S0 (T337.setTop (mkF m 623 #[vi p0, vi pk, vr uk, vr b21, .unset, .unset, .unset, .unset] [(.ref b225)])) := c336.trans (st337 _ (Steps.refl _))
    have N337 := Fr.snoc X337 N334 (Nat.le_trans Z0 ge228)
    have z337 : n0 ≤ h337.size := Nat.le_trans z334 (Keep.of_wr W337).1
    have K337 := K334.wr W337 (Or.inr ge228)
    have c339 : SS p e below S0 (T337.setTop (mkF m 628 #[vi p0, vi pk, vr uk, vr b21, .unset, .unset, .unset, .unset] [(.int 122), (.int 35), (.ref b225), (.ref b225)])) := c338.trans (by
      show SS p e below (T337.setTop (mkF m 623 #[vi p0, vi pk, vr uk, vr b21, .unset, .unset, .unset, .unset] [(.ref b225)])) _
      refine XS.dup X337.here hx rfl (hb hby at_623) rfl rfl ?_
      refine XS.bipush X337.here hx rfl (hb hby at_624) ?_
      refine XS.bipush X337.here hx rfl (hb hby at_626) ?_
      exact Steps.refl _)
    obtain ⟨cl340, Ar340, q340, S340, Nn340, Ha340, G340⟩ := id V337
    obtain ⟨T340, h340, X340, e340, W340, st340⟩ := stC X337 hx hZ e337 Ar340 (j := (35 : Int32)) (inb_of S340 ⟨by decide, by decide⟩) (g := (mkF m 628 #[vi p0, vi pk, vr uk, vr b21, .unset, .unset, .unset, .unset] [(.int 122), (.int 35), (.ref b225), (.ref b225)])) rfl rfl (hb hby at_628)
    have V340 : Arv Z h340 b225 k225 .char (65 : Int32) [(.int (nar .char (65 : Int32))), (.int (nar .char (98 : Int32))), (.int (nar .char (90 : Int32))), (.int (nar .char (122 : Int32))), (.int (nar .char (48 : Int32))), (.int (nar .char (57 : Int32))), (.int (nar .char (45 : Int32))), (.int (nar .char (95 : Int32))), (.int (nar .char (65 : Int32))), (.int (nar .char (98 : Int32))), (.int (nar .char (90 : Int32))), (.int (nar .char (122 : Int32))), (.int (nar .char (48 : Int32))), (.int (nar .char (57 : Int32))), (.int (nar .char (45 : Int32))), (.int (nar .char (95 : Int32))), (.int (nar .char (65 : Int32))), (.int (nar .char (98 : Int32))), (.int (nar .char (90 : Int32))), (.int (nar .char (122 : Int32))), (.int (nar .char (48 : Int32))), (.int (nar .char (57 : Int32))), (.int (nar .char (45 : Int32))), (.int (nar .char (95 : Int32))), (.int (nar .char (65 : Int32))), (.int (nar .char (98 : Int32))), (.int (nar .char (90 : Int32))), (.int (nar .char (122 : Int32))), (.int (nar .char (48 : Int32))), (.int (nar .char (57 : Int32))), (.int (nar .char (45 : Int32))), (.int (nar .char (95 : Int32))), (.int (nar .char (65 : Int32))), (.int (nar .char (98 : Int32))), (.int (nar .char (90 : Int32))), (.int (nar .char (122 : Int32))), (.int 0), (.int 0), (.int 0), (.int 0), (.int 0), (.int 0), (.int 0), (.int 0), (.int 0), (.int 0), (.int 0), (.int 0), (.int 0), (.int 0), (.int 0), (.int 0), (.int 0), (.int 0), (.int 0), (.int 0), (.int 0), (.int 0), (.int 0), (.int 0), (.int 0), (.int 0), (.int 0), (.int 0), (.int 0)] (.int 0) := Arv.set Ar340 q340 S340 Nn340 Ha340 G340 (fits_nar_char _) W340 35 rfl (Nat.le_of_ble_eq_true rfl)
    have c341 : SS p e below S0 (T340.setTop (mkF m 629 #[vi p0, vi pk, vr uk, vr b21, .unset, .unset, .unset, .unset] [(.ref b225)])) := c339.trans (st340 _ (Steps.refl _))
    have N340 := Fr.snoc X340 N337 (Nat.le_trans Z0 ge228)
    have z340 : n0 ≤ h340.size := Nat.le_trans z337 (Keep.of_wr W340).1
    have K340 := K337.wr W340 (Or.inr ge228)
    have c342 : SS p e below S0 (T340.setTop (mkF m 634 #[vi p0, vi pk, vr uk, vr b21, .unset, .unset, .unset, .unset] [(.int 48), (.int 36), (.ref b225), (.ref b225)])) := c341.trans (by
      show SS p e below (T340.setTop (mkF m 629 #[vi p0, vi pk, vr uk, vr b21, .unset, .unset, .unset, .unset] [(.ref b225)])) _
      refine XS.dup X340.here hx rfl (hb hby at_629) rfl rfl ?_
      refine XS.bipush X340.here hx rfl (hb hby at_630) ?_
      refine XS.bipush X340.here hx rfl (hb hby at_632) ?_
      exact Steps.refl _)
    obtain ⟨cl343, Ar343, q343, S343, Nn343, Ha343, G343⟩ := id V340
    obtain ⟨T343, h343, X343, e343, W343, st343⟩ := stC X340 hx hZ e340 Ar343 (j := (36 : Int32)) (inb_of S343 ⟨by decide, by decide⟩) (g := (mkF m 634 #[vi p0, vi pk, vr uk, vr b21, .unset, .unset, .unset, .unset] [(.int 48), (.int 36), (.ref b225), (.ref b225)])) rfl rfl (hb hby at_634)
    have V343 : Arv Z h343 b225 k225 .char (65 : Int32) [(.int (nar .char (65 : Int32))), (.int (nar .char (98 : Int32))), (.int (nar .char (90 : Int32))), (.int (nar .char (122 : Int32))), (.int (nar .char (48 : Int32))), (.int (nar .char (57 : Int32))), (.int (nar .char (45 : Int32))), (.int (nar .char (95 : Int32))), (.int (nar .char (65 : Int32))), (.int (nar .char (98 : Int32))), (.int (nar .char (90 : Int32))), (.int (nar .char (122 : Int32))), (.int (nar .char (48 : Int32))), (.int (nar .char (57 : Int32))), (.int (nar .char (45 : Int32))), (.int (nar .char (95 : Int32))), (.int (nar .char (65 : Int32))), (.int (nar .char (98 : Int32))), (.int (nar .char (90 : Int32))), (.int (nar .char (122 : Int32))), (.int (nar .char (48 : Int32))), (.int (nar .char (57 : Int32))), (.int (nar .char (45 : Int32))), (.int (nar .char (95 : Int32))), (.int (nar .char (65 : Int32))), (.int (nar .char (98 : Int32))), (.int (nar .char (90 : Int32))), (.int (nar .char (122 : Int32))), (.int (nar .char (48 : Int32))), (.int (nar .char (57 : Int32))), (.int (nar .char (45 : Int32))), (.int (nar .char (95 : Int32))), (.int (nar .char (65 : Int32))), (.int (nar .char (98 : Int32))), (.int (nar .char (90 : Int32))), (.int (nar .char (122 : Int32))), (.int (nar .char (48 : Int32))), (.int 0), (.int 0), (.int 0), (.int 0), (.int 0), (.int 0), (.int 0), (.int 0), (.int 0), (.int 0), (.int 0), (.int 0), (.int 0), (.int 0), (.int 0), (.int 0), (.int 0), (.int 0), (.int 0), (.int 0), (.int 0), (.int 0), (.int 0), (.int 0), (.int 0), (.int 0), (.int 0), (.int 0)] (.int 0) := Arv.set Ar343 q343 S343 Nn343 Ha343 G343 (fits_nar_char _) W343 36 rfl (Nat.le_of_ble_eq_true rfl)
    have c344 : SS p e below S0 (T343.setTop (mkF m 635 #[vi p0, vi pk, vr uk, vr b21, .unset, .unset, .unset, .unset] [(.ref b225)])) := c342.trans (st343 _ (Steps.refl _))
    have N343 := Fr.snoc X343 N340 (Nat.le_trans Z0 ge228)
    have z343 : n0 ≤ h343.size := Nat.le_trans z340 (Keep.of_wr W343).1
    have K343 := K340.wr W343 (Or.inr ge228)
    have c345 : SS p e below S0 (T343.setTop (mkF m 640 #[vi p0, vi pk, vr uk, vr b21, .unset, .unset, .unset, .unset] [(.int 57), (.int 37), (.ref b225), (.ref b225)])) := c344.trans (by
      show SS p e below (T343.setTop (mkF m 635 #[vi p0, vi pk, vr uk, vr b21, .unset, .unset, .unset, .unset] [(.ref b225)])) _
      refine XS.dup X343.here hx rfl (hb hby at_635) rfl rfl ?_
      refine XS.bipush X343.here hx rfl (hb hby at_636) ?_
      refine XS.bipush X343.here hx rfl (hb hby at_638) ?_
      exact Steps.refl _)
    obtain ⟨cl346, Ar346, q346, S346, Nn346, Ha346, G346⟩ := id V343
    obtain ⟨T346, h346, X346, e346, W346, st346⟩ := stC X343 hx hZ e343 Ar346 (j := (37 : Int32)) (inb_of S346 ⟨by decide, by decide⟩) (g := (mkF m 640 #[vi p0, vi pk, vr uk, vr b21, .unset, .unset, .unset, .unset] [(.int 57), (.int 37), (.ref b225), (.ref b225)])) rfl rfl (hb hby at_640)
    have V346 : Arv Z h346 b225 k225 .char (65 : Int32) [(.int (nar .char (65 : Int32))), (.int (nar .char (98 : Int32))), (.int (nar .char (90 : Int32))), (.int (nar .char (122 : Int32))), (.int (nar .char (48 : Int32))), (.int (nar .char (57 : Int32))), (.int (nar .char (45 : Int32))), (.int (nar .char (95 : Int32))), (.int (nar .char (65 : Int32))), (.int (nar .char (98 : Int32))), (.int (nar .char (90 : Int32))), (.int (nar .char (122 : Int32))), (.int (nar .char (48 : Int32))), (.int (nar .char (57 : Int32))), (.int (nar .char (45 : Int32))), (.int (nar .char (95 : Int32))), (.int (nar .char (65 : Int32))), (.int (nar .char (98 : Int32))), (.int (nar .char (90 : Int32))), (.int (nar .char (122 : Int32))), (.int (nar .char (48 : Int32))), (.int (nar .char (57 : Int32))), (.int (nar .char (45 : Int32))), (.int (nar .char (95 : Int32))), (.int (nar .char (65 : Int32))), (.int (nar .char (98 : Int32))), (.int (nar .char (90 : Int32))), (.int (nar .char (122 : Int32))), (.int (nar .char (48 : Int32))), (.int (nar .char (57 : Int32))), (.int (nar .char (45 : Int32))), (.int (nar .char (95 : Int32))), (.int (nar .char (65 : Int32))), (.int (nar .char (98 : Int32))), (.int (nar .char (90 : Int32))), (.int (nar .char (122 : Int32))), (.int (nar .char (48 : Int32))), (.int (nar .char (57 : Int32))), (.int 0), (.int 0), (.int 0), (.int 0), (.int 0), (.int 0), (.int 0), (.int 0), (.int 0), (.int 0), (.int 0), (.int 0), (.int 0), (.int 0), (.int 0), (.int 0), (.int 0), (.int 0), (.int 0), (.int 0), (.int 0), (.int 0), (.int 0), (.int 0), (.int 0), (.int 0), (.int 0)] (.int 0) := Arv.set Ar346 q346 S346 Nn346 Ha346 G346 (fits_nar_char _) W346 37 rfl (Nat.le_of_ble_eq_true rfl)
    have c347 : SS p e below S0 (T346.setTop (mkF m 641 #[vi p0, vi pk, vr uk, vr b21, .unset, .unset, .unset, .unset] [(.ref b225)])) := c345.trans (st346 _ (Steps.refl _))
    have N346 := Fr.snoc X346 N343 (Nat.le_trans Z0 ge228)
    have z346 : n0 ≤ h346.size := Nat.le_trans z343 (Keep.of_wr W346).1
    have K346 := K343.wr W346 (Or.inr ge228)
    have c348 : SS p e below S0 (T346.setTop (mkF m 646 #[vi p0, vi pk, vr uk, vr b21, .unset, .unset, .unset, .unset] [(.int 45), (.int 38), (.ref b225), (.ref b225)])) := c347.trans (by
      show SS p e below (T346.setTop (mkF m 641 #[vi p0, vi pk, vr uk, vr b21, .unset, .unset, .unset, .unset] [(.ref b225)])) _
      refine XS.dup X346.here hx rfl (hb hby at_641) rfl rfl ?_
      refine XS.bipush X346.here hx rfl (hb hby at_642) ?_
      refine XS.bipush X346.here hx rfl (hb hby at_644) ?_
      exact Steps.refl _)
    obtain ⟨cl349, Ar349, q349, S349, Nn349, Ha349, G349⟩ := id V346
    obtain ⟨T349, h349, X349, e349, W349, st349⟩ := stC X346 hx hZ e346 Ar349 (j := (38 : Int32)) (inb_of S349 ⟨by decide, by decide⟩) (g := (mkF m 646 #[vi p0, vi pk, vr uk, vr b21, .unset, .unset, .unset, .unset] [(.int 45), (.int 38), (.ref b225), (.ref b225)])) rfl rfl (hb hby at_646)
    have V349 : Arv Z h349 b225 k225 .char (65 : Int32) [(.int (nar .char (65 : Int32))), (.int (nar .char (98 : Int32))), (.int (nar .char (90 : Int32))), (.int (nar .char (122 : Int32))), (.int (nar .char (48 : Int32))), (.int (nar .char (57 : Int32))), (.int (nar .char (45 : Int32))), (.int (nar .char (95 : Int32))), (.int (nar .char (65 : Int32))), (.int (nar .char (98 : Int32))), (.int (nar .char (90 : Int32))), (.int (nar .char (122 : Int32))), (.int (nar .char (48 : Int32))), (.int (nar .char (57 : Int32))), (.int (nar .char (45 : Int32))), (.int (nar .char (95 : Int32))), (.int (nar .char (65 : Int32))), (.int (nar .char (98 : Int32))), (.int (nar .char (90 : Int32))), (.int (nar .char (122 : Int32))), (.int (nar .char (48 : Int32))), (.int (nar .char (57 : Int32))), (.int (nar .char (45 : Int32))), (.int (nar .char (95 : Int32))), (.int (nar .char (65 : Int32))), (.int (nar .char (98 : Int32))), (.int (nar .char (90 : Int32))), (.int (nar .char (122 : Int32))), (.int (nar .char (48 : Int32))), (.int (nar .char (57 : Int32))), (.int (nar .char (45 : Int32))), (.int (nar .char (95 : Int32))), (.int (nar .char (65 : Int32))), (.int (nar .char (98 : Int32))), (.int (nar .char (90 : Int32))), (.int (nar .char (122 : Int32))), (.int (nar .char (48 : Int32))), (.int (nar .char (57 : Int32))), (.int (nar .char (45 : Int32))), (.int 0), (.int 0), (.int 0), (.int 0), (.int 0), (.int 0), (.int 0), (.int 0), (.int 0), (.int 0), (.int 0), (.int 0), (.int 0), (.int 0), (.int 0), (.int 0), (.int 0), (.int 0), (.int 0), (.int 0), (.int 0), (.int 0), (.int 0), (.int 0), (.int 0), (.int 0)] (.int 0) := Arv.set Ar349 q349 S349 Nn349 Ha349 G349 (fits_nar_char _) W349 38 rfl (Nat.le_of_ble_eq_true rfl)
    have c350 : SS p e below S0 (T349.setTop (mkF m 647 #[vi p0, vi pk, vr uk, vr b21, .unset, .unset, .unset, .unset] [(.ref b225)])) := c348.trans (st349 _ (Steps.refl _))
    have N349 := Fr.snoc X349 N346 (Nat.le_trans Z0 ge228)
    have z349 : n0 ≤ h349.size := Nat.le_trans z346 (Keep.of_wr W349).1
    have K349 := K346.wr W349 (Or.inr ge228)
    have c351 : SS p e below S0 (T349.setTop (mkF m 652 #[vi p0, vi pk, vr uk, vr b21, .unset, .unset, .unset, .unset] [(.int 95), (.int 39), (.ref b225), (.ref b225)])) := c350.trans (by
      show SS p e below (T349.setTop (mkF m 647 #[vi p0, vi pk, vr uk, vr b21, .unset, .unset, .unset, .unset] [(.ref b225)])) _
      refine XS.dup X349.here hx rfl (hb hby at_647) rfl rfl ?_
      refine XS.bipush X349.here hx rfl (hb hby at_648) ?_
      refine XS.bipush X349.here hx rfl (hb hby at_650) ?_
      exact Steps.refl _)
    obtain ⟨cl352, Ar352, q352, S352, Nn352, Ha352, G352⟩ := id V349
    obtain ⟨T352, h352, X352, e352, W352, st352⟩ := stC X349 hx hZ e349 Ar352 (j := (39 : Int32)) (inb_of S352 ⟨by decide, by decide⟩) (g := (mkF m 652 #[vi p0, vi pk, vr uk, vr b21, .unset, .unset, .unset, .unset] [(.int 95), (.int 39), (.ref b225), (.ref b225)])) rfl rfl (hb hby at_652)
    have V352 : Arv Z h352 b225 k225 .char (65 : Int32) [(.int (nar .char (65 : Int32))), (.int (nar .char (98 : Int32))), (.int (nar .char (90 : Int32))), (.int (nar .char (122 : Int32))), (.int (nar .char (48 : Int32))), (.int (nar .char (57 : Int32))), (.int (nar .char (45 : Int32))), (.int (nar .char (95 : Int32))), (.int (nar .char (65 : Int32))), (.int (nar .char (98 : Int32))), (.int (nar .char (90 : Int32))), (.int (nar .char (122 : Int32))), (.int (nar .char (48 : Int32))), (.int (nar .char (57 : Int32))), (.int (nar .char (45 : Int32))), (.int (nar .char (95 : Int32))), (.int (nar .char (65 : Int32))), (.int (nar .char (98 : Int32))), (.int (nar .char (90 : Int32))), (.int (nar .char (122 : Int32))), (.int (nar .char (48 : Int32))), (.int (nar .char (57 : Int32))), (.int (nar .char (45 : Int32))), (.int (nar .char (95 : Int32))), (.int (nar .char (65 : Int32))), (.int (nar .char (98 : Int32))), (.int (nar .char (90 : Int32))), (.int (nar .char (122 : Int32))), (.int (nar .char (48 : Int32))), (.int (nar .char (57 : Int32))), (.int (nar .char (45 : Int32))), (.int (nar .char (95 : Int32))), (.int (nar .char (65 : Int32))), (.int (nar .char (98 : Int32))), (.int (nar .char (90 : Int32))), (.int (nar .char (122 : Int32))), (.int (nar .char (48 : Int32))), (.int (nar .char (57 : Int32))), (.int (nar .char (45 : Int32))), (.int (nar .char (95 : Int32))), (.int 0), (.int 0), (.int 0), (.int 0), (.int 0), (.int 0), (.int 0), (.int 0), (.int 0), (.int 0), (.int 0), (.int 0), (.int 0), (.int 0), (.int 0), (.int 0), (.int 0), (.int 0), (.int 0), (.int 0), (.int 0), (.int 0), (.int 0), (.int 0), (.int 0)] (.int 0) := Arv.set Ar352 q352 S352 Nn352 Ha352 G352 (fits_nar_char _) W352 39 rfl (Nat.le_of_ble_eq_true rfl)
    have c353 : SS p e below S0 (T352.setTop (mkF m 653 #[vi p0, vi pk, vr uk, vr b21, .unset, .unset, .unset, .unset] [(.ref b225)])) := c351.trans (st352 _ (Steps.refl _))
    have N352 := Fr.snoc X352 N349 (Nat.le_trans Z0 ge228)
    have z352 : n0 ≤ h352.size := Nat.le_trans z349 (Keep.of_wr W352).1
    have K352 := K349.wr W352 (Or.inr ge228)
    exact ⟨T352, _, _, N352, X352, e352, K352, z352, ((((((((O304.wr W331 (Nat.le_trans Z0 ge228)).wr W334 (Nat.le_trans Z0 ge228)).wr W337 (Nat.le_trans Z0 ge228)).wr W340 (Nat.le_trans Z0 ge228)).wr W343 (Nat.le_trans Z0 ge228)).wr W346 (Nat.le_trans Z0 ge228)).wr W349 (Nat.le_trans Z0 ge228)).wr W352 (Nat.le_trans Z0 ge228)), ((((((((V304_b21.other W331 ne227).other W334 ne227).other W337 ne227).other W340 ne227).other W343 ne227).other W346 ne227).other W349 ne227).other W352 ne227), V352, c353⟩
  obtain ⟨T354, h354, l354, N354, X354, e354, K354, z354, O354, V354_b21, V354_b225, c354⟩ : ∃ (T : State) (h : Heap) (locs : List Loc), Fr n0 locs ∧ Stand p l e room_1 s m #[(.int p0)] below meth c T locs 2 129 ∧ T.heap = h ∧ Keep h0 h [] ∧ n0 ≤ h.size ∧ Old Z n0 h ∧ Arv Z h b21 k21 .char (64 : Int32) [(.int (nar .char (65 : Int32))), (.int (nar .char (98 : Int32))), (.int (nar .char (90 : Int32))), (.int (nar .char (122 : Int32))), (.int (nar .char (48 : Int32))), (.int (nar .char (57 : Int32))), (.int (nar .char (45 : Int32))), (.int (nar .char (95 : Int32))), (.int (nar .char (65 : Int32))), (.int (nar .char (98 : Int32))), (.int (nar .char (90 : Int32))), (.int (nar .char (122 : Int32))), (.int (nar .char (48 : Int32))), (.int (nar .char (57 : Int32))), (.int (nar .char (45 : Int32))), (.int (nar .char (95 : Int32))), (.int (nar .char (65 : Int32))), (.int (nar .char (98 : Int32))), (.int (nar .char (90 : Int32))), (.int (nar .char (122 : Int32))), (.int (nar .char (48 : Int32))), (.int (nar .char (57 : Int32))), (.int (nar .char (45 : Int32))), (.int (nar .char (95 : Int32))), (.int (nar .char (65 : Int32))), (.int (nar .char (98 : Int32))), (.int (nar .char (90 : Int32))), (.int (nar .char (122 : Int32))), (.int (nar .char (48 : Int32))), (.int (nar .char (57 : Int32))), (.int (nar .char (45 : Int32))), (.int (nar .char (95 : Int32))), (.int (nar .char (65 : Int32))), (.int (nar .char (98 : Int32))), (.int (nar .char (90 : Int32))), (.int (nar .char (122 : Int32))), (.int (nar .char (48 : Int32))), (.int (nar .char (57 : Int32))), (.int (nar .char (45 : Int32))), (.int (nar .char (95 : Int32))), (.int (nar .char (65 : Int32))), (.int (nar .char (98 : Int32))), (.int (nar .char (90 : Int32))), (.int (nar .char (122 : Int32))), (.int (nar .char (48 : Int32))), (.int (nar .char (57 : Int32))), (.int (nar .char (45 : Int32))), (.int (nar .char (95 : Int32))), (.int (nar .char (65 : Int32))), (.int (nar .char (98 : Int32))), (.int (nar .char (90 : Int32))), (.int (nar .char (122 : Int32))), (.int (nar .char (48 : Int32))), (.int (nar .char (57 : Int32))), (.int (nar .char (45 : Int32))), (.int (nar .char (95 : Int32))), (.int (nar .char (65 : Int32))), (.int (nar .char (98 : Int32))), (.int (nar .char (90 : Int32))), (.int (nar .char (122 : Int32))), (.int (nar .char (48 : Int32))), (.int (nar .char (57 : Int32))), (.int (nar .char (45 : Int32))), (.int (nar .char (95 : Int32)))] (.int 0) ∧ Arv Z h b225 k225 .char (65 : Int32) [(.int (nar .char (65 : Int32))), (.int (nar .char (98 : Int32))), (.int (nar .char (90 : Int32))), (.int (nar .char (122 : Int32))), (.int (nar .char (48 : Int32))), (.int (nar .char (57 : Int32))), (.int (nar .char (45 : Int32))), (.int (nar .char (95 : Int32))), (.int (nar .char (65 : Int32))), (.int (nar .char (98 : Int32))), (.int (nar .char (90 : Int32))), (.int (nar .char (122 : Int32))), (.int (nar .char (48 : Int32))), (.int (nar .char (57 : Int32))), (.int (nar .char (45 : Int32))), (.int (nar .char (95 : Int32))), (.int (nar .char (65 : Int32))), (.int (nar .char (98 : Int32))), (.int (nar .char (90 : Int32))), (.int (nar .char (122 : Int32))), (.int (nar .char (48 : Int32))), (.int (nar .char (57 : Int32))), (.int (nar .char (45 : Int32))), (.int (nar .char (95 : Int32))), (.int (nar .char (65 : Int32))), (.int (nar .char (98 : Int32))), (.int (nar .char (90 : Int32))), (.int (nar .char (122 : Int32))), (.int (nar .char (48 : Int32))), (.int (nar .char (57 : Int32))), (.int (nar .char (45 : Int32))), (.int (nar .char (95 : Int32))), (.int (nar .char (65 : Int32))), (.int (nar .char (98 : Int32))), (.int (nar .char (90 : Int32))), (.int (nar .char (122 : Int32))), (.int (nar .char (48 : Int32))), (.int (nar .char (57 : Int32))), (.int (nar .char (45 : Int32))), (.int (nar .char (95 : Int32))), (.int (nar .char (65 : Int32))), (.int (nar .char (98 : Int32))), (.int (nar .char (90 : Int32))), (.int (nar .char (122 : Int32))), (.int (nar .char (48 : Int32))), (.int (nar .char (57 : Int32))), (.int (nar .char (45 : Int32))), (.int (nar .char (95 : Int32))), (.int 0), (.int 0), (.int 0), (.int 0), (.int 0), (.int 0), (.int 0), (.int 0), (.int 0), (.int 0), (.int 0), (.int 0), (.int 0), (.int 0), (.int 0), (.int 0), (.int 0)] (.int 0) ∧ SS p e below S0 (T.setTop (mkF m 701 #[vi p0, vi pk, vr uk, vr b21, .unset, .unset, .unset, .unset] [(.ref b225)])) := by
    have c355 : SS p e below S0 (T329.setTop (mkF m 658 #[vi p0, vi pk, vr uk, vr b21, .unset, .unset, .unset, .unset] [(.int 65), (.int 40), (.ref b225), (.ref b225)])) := c329.trans (by
      show SS p e below (T329.setTop (mkF m 653 #[vi p0, vi pk, vr uk, vr b21, .unset, .unset, .unset, .unset] [(.ref b225)])) _
      refine XS.dup X329.here hx rfl (hb hby at_653) rfl rfl ?_
      refine XS.bipush X329.here hx rfl (hb hby at_654) ?_
      refine XS.bipush X329.here hx rfl (hb hby at_656) ?_
      exact Steps.refl _)
    obtain ⟨cl356, Ar356, q356, S356, Nn356, Ha356, G356⟩ := id V329_b225
    obtain ⟨T356, h356, X356, e356, W356, st356⟩ := stC X329 hx hZ e329 Ar356 (j := (40 : Int32)) (inb_of S356 ⟨by decide, by decide⟩) (g := (mkF m 658 #[vi p0, vi pk, vr uk, vr b21, .unset, .unset, .unset, .unset] [(.int 65), (.int 40), (.ref b225), (.ref b225)])) rfl rfl (hb hby at_658)
    have V356 : Arv Z h356 b225 k225 .char (65 : Int32) [(.int (nar .char (65 : Int32))), (.int (nar .char (98 : Int32))), (.int (nar .char (90 : Int32))), (.int (nar .char (122 : Int32))), (.int (nar .char (48 : Int32))), (.int (nar .char (57 : Int32))), (.int (nar .char (45 : Int32))), (.int (nar .char (95 : Int32))), (.int (nar .char (65 : Int32))), (.int (nar .char (98 : Int32))), (.int (nar .char (90 : Int32))), (.int (nar .char (122 : Int32))), (.int (nar .char (48 : Int32))), (.int (nar .char (57 : Int32))), (.int (nar .char (45 : Int32))), (.int (nar .char (95 : Int32))), (.int (nar .char (65 : Int32))), (.int (nar .char (98 : Int32))), (.int (nar .char (90 : Int32))), (.int (nar .char (122 : Int32))), (.int (nar .char (48 : Int32))), (.int (nar .char (57 : Int32))), (.int (nar .char (45 : Int32))), (.int (nar .char (95 : Int32))), (.int (nar .char (65 : Int32))), (.int (nar .char (98 : Int32))), (.int (nar .char (90 : Int32))), (.int (nar .char (122 : Int32))), (.int (nar .char (48 : Int32))), (.int (nar .char (57 : Int32))), (.int (nar .char (45 : Int32))), (.int (nar .char (95 : Int32))), (.int (nar .char (65 : Int32))), (.int (nar .char (98 : Int32))), (.int (nar .char (90 : Int32))), (.int (nar .char (122 : Int32))), (.int (nar .char (48 : Int32))), (.int (nar .char (57 : Int32))), (.int (nar .char (45 : Int32))), (.int (nar .char (95 : Int32))), (.int (nar .char (65 : Int32))), (.int 0), (.int 0), (.int 0), (.int 0), (.int 0), (.int 0), (.int 0), (.int 0), (.int 0), (.int 0), (.int 0), (.int 0), (.int 0), (.int 0), (.int 0), (.int 0), (.int 0), (.int 0), (.int 0), (.int 0), (.int 0), (.int 0), (.int 0), (.int 0)] (.int 0) := Arv.set Ar356 q356 S356 Nn356 Ha356 G356 (fits_nar_char _) W356 40 rfl (Nat.le_of_ble_eq_true rfl)
    have c357 : SS p e below S0 (T356.setTop (mkF m 659 #[vi p0, vi pk, vr uk, vr b21, .unset, .unset, .unset, .unset] [(.ref b225)])) := c355.trans (st356 _ (Steps.refl _))
    have N356 := Fr.snoc X356 N329 (Nat.le_trans Z0 ge228)
    have z356 : n0 ≤ h356.size := Nat.le_trans z329 (Keep.of_wr W356).1
    have K356 := K329.wr W356 (Or.inr ge228)
    have c358 : SS p e below S0 (T356.setTop (mkF m 664 #[vi p0, vi pk, vr uk, vr b21, .unset, .unset, .unset, .unset] [(.int 98), (.int 41), (.ref b225), (.ref b225)])) := c357.trans (by
      show SS p e below (T356.setTop (mkF m 659 #[vi p0, vi pk, vr uk, vr b21, .unset, .unset, .unset, .unset] [(.ref b225)])) _
      refine XS.dup X356.here hx rfl (hb hby at_659) rfl rfl ?_
      refine XS.bipush X356.here hx rfl (hb hby at_660) ?_
      refine XS.bipush X356.here hx rfl (hb hby at_662) ?_
      exact Steps.refl _)
    obtain ⟨cl359, Ar359, q359, S359, Nn359, Ha359, G359⟩ := id V356
    obtain ⟨T359, h359, X359, e359, W359, st359⟩ := stC X356 hx hZ e356 Ar359 (j := (41 : Int32)) (inb_of S359 ⟨by decide, by decide⟩) (g := (mkF m 664 #[vi p0, vi pk, vr uk, vr b21, .unset, .unset, .unset, .unset] [(.int 98), (.int 41), (.ref b225), (.ref b225)])) rfl rfl (hb hby at_664)
    have V359 : Arv Z h359 b225 k225 .char (65 : Int32) [(.int (nar .char (65 : Int32))), (.int (nar .char (98 : Int32))), (.int (nar .char (90 : Int32))), (.int (nar .char (122 : Int32))), (.int (nar .char (48 : Int32))), (.int (nar .char (57 : Int32))), (.int (nar .char (45 : Int32))), (.int (nar .char (95 : Int32))), (.int (nar .char (65 : Int32))), (.int (nar .char (98 : Int32))), (.int (nar .char (90 : Int32))), (.int (nar .char (122 : Int32))), (.int (nar .char (48 : Int32))), (.int (nar .char (57 : Int32))), (.int (nar .char (45 : Int32))), (.int (nar .char (95 : Int32))), (.int (nar .char (65 : Int32))), (.int (nar .char (98 : Int32))), (.int (nar .char (90 : Int32))), (.int (nar .char (122 : Int32))), (.int (nar .char (48 : Int32))), (.int (nar .char (57 : Int32))), (.int (nar .char (45 : Int32))), (.int (nar .char (95 : Int32))), (.int (nar .char (65 : Int32))), (.int (nar .char (98 : Int32))), (.int (nar .char (90 : Int32))), (.int (nar .char (122 : Int32))), (.int (nar .char (48 : Int32))), (.int (nar .char (57 : Int32))), (.int (nar .char (45 : Int32))), (.int (nar .char (95 : Int32))), (.int (nar .char (65 : Int32))), (.int (nar .char (98 : Int32))), (.int (nar .char (90 : Int32))), (.int (nar .char (122 : Int32))), (.int (nar .char (48 : Int32))), (.int (nar .char (57 : Int32))), (.int (nar .char (45 : Int32))), (.int (nar .char (95 : Int32))), (.int (nar .char (65 : Int32))), (.int (nar .char (98 : Int32))), (.int 0), (.int 0), (.int 0), (.int 0), (.int 0), (.int 0), (.int 0), (.int 0), (.int 0), (.int 0), (.int 0), (.int 0), (.int 0), (.int 0), (.int 0), (.int 0), (.int 0), (.int 0), (.int 0), (.int 0), (.int 0), (.int 0), (.int 0)] (.int 0) := Arv.set Ar359 q359 S359 Nn359 Ha359 G359 (fits_nar_char _) W359 41 rfl (Nat.le_of_ble_eq_true rfl)
    have c360 : SS p e below S0 (T359.setTop (mkF m 665 #[vi p0, vi pk, vr uk, vr b21, .unset, .unset, .unset, .unset] [(.ref b225)])) := c358.trans (st359 _ (Steps.refl _))
    have N359 := Fr.snoc X359 N356 (Nat.le_trans Z0 ge228)
    have z359 : n0 ≤ h359.size := Nat.le_trans z356 (Keep.of_wr W359).1
    have K359 := K356.wr W359 (Or.inr ge228)
    have c361 : SS p e below S0 (T359.setTop (mkF m 670 #[vi p0, vi pk, vr uk, vr b21, .unset, .unset, .unset, .unset] [(.int 90), (.int 42), (.ref b225), (.ref b225)])) := c360.trans (by
      show SS p e below (T359.setTop (mkF m 665 #[vi p0, vi pk, vr uk, vr b21, .unset, .unset, .unset, .unset] [(.ref b225)])) _
      refine XS.dup X359.here hx rfl (hb hby at_665) rfl rfl ?_
      refine XS.bipush X359.here hx rfl (hb hby at_666) ?_
      refine XS.bipush X359.here hx rfl (hb hby at_668) ?_
      exact Steps.refl _)
    obtain ⟨cl362, Ar362, q362, S362, Nn362, Ha362, G362⟩ := id V359
    obtain ⟨T362, h362, X362, e362, W362, st362⟩ := stC X359 hx hZ e359 Ar362 (j := (42 : Int32)) (inb_of S362 ⟨by decide, by decide⟩) (g := (mkF m 670 #[vi p0, vi pk, vr uk, vr b21, .unset, .unset, .unset, .unset] [(.int 90), (.int 42), (.ref b225), (.ref b225)])) rfl rfl (hb hby at_670)
    have V362 : Arv Z h362 b225 k225 .char (65 : Int32) [(.int (nar .char (65 : Int32))), (.int (nar .char (98 : Int32))), (.int (nar .char (90 : Int32))), (.int (nar .char (122 : Int32))), (.int (nar .char (48 : Int32))), (.int (nar .char (57 : Int32))), (.int (nar .char (45 : Int32))), (.int (nar .char (95 : Int32))), (.int (nar .char (65 : Int32))), (.int (nar .char (98 : Int32))), (.int (nar .char (90 : Int32))), (.int (nar .char (122 : Int32))), (.int (nar .char (48 : Int32))), (.int (nar .char (57 : Int32))), (.int (nar .char (45 : Int32))), (.int (nar .char (95 : Int32))), (.int (nar .char (65 : Int32))), (.int (nar .char (98 : Int32))), (.int (nar .char (90 : Int32))), (.int (nar .char (122 : Int32))), (.int (nar .char (48 : Int32))), (.int (nar .char (57 : Int32))), (.int (nar .char (45 : Int32))), (.int (nar .char (95 : Int32))), (.int (nar .char (65 : Int32))), (.int (nar .char (98 : Int32))), (.int (nar .char (90 : Int32))), (.int (nar .char (122 : Int32))), (.int (nar .char (48 : Int32))), (.int (nar .char (57 : Int32))), (.int (nar .char (45 : Int32))), (.int (nar .char (95 : Int32))), (.int (nar .char (65 : Int32))), (.int (nar .char (98 : Int32))), (.int (nar .char (90 : Int32))), (.int (nar .char (122 : Int32))), (.int (nar .char (48 : Int32))), (.int (nar .char (57 : Int32))), (.int (nar .char (45 : Int32))), (.int (nar .char (95 : Int32))), (.int (nar .char (65 : Int32))), (.int (nar .char (98 : Int32))), (.int (nar .char (90 : Int32))), (.int 0), (.int 0), (.int 0), (.int 0), (.int 0), (.int 0), (.int 0), (.int 0), (.int 0), (.int 0), (.int 0), (.int 0), (.int 0), (.int 0), (.int 0), (.int 0), (.int 0), (.int 0), (.int 0), (.int 0), (.int 0), (.int 0)] (.int 0) := Arv.set Ar362 q362 S362 Nn362 Ha362 G362 (fits_nar_char _) W362 42 rfl (Nat.le_of_ble_eq_true rfl)
    have c363 : SS p e below S0 (T362.setTop (mkF m 671 #[vi p0, vi pk, vr uk, vr b21, .unset, .unset, .unset, .unset] [(.ref b225)])) := c361.trans (st362 _ (Steps.refl _))
    have N362 := Fr.snoc X362 N359 (Nat.le_trans Z0 ge228)
    have z362 : n0 ≤ h362.size := Nat.le_trans z359 (Keep.of_wr W362).1
    have K362 := K359.wr W362 (Or.inr ge228)
    have c364 : SS p e below S0 (T362.setTop (mkF m 676 #[vi p0, vi pk, vr uk, vr b21, .unset, .unset, .unset, .unset] [(.int 122), (.int 43), (.ref b225), (.ref b225)])) := c363.trans (by
      show SS p e below (T362.setTop (mkF m 671 #[vi p0, vi pk, vr uk, vr b21, .unset, .unset, .unset, .unset] [(.ref b225)])) _
      refine XS.dup X362.here hx rfl (hb hby at_671) rfl rfl ?_
      refine XS.bipush X362.here hx rfl (hb hby at_672) ?_
      refine XS.bipush X362.here hx rfl (hb hby at_674) ?_
      exact Steps.refl _)
    obtain ⟨cl365, Ar365, q365, S365, Nn365, Ha365, G365⟩ := id V362
    obtain ⟨T365, h365, X365, e365, W365, st365⟩ := stC X362 hx hZ e362 Ar365 (j := (43 : Int32)) (inb_of S365 ⟨by decide, by decide⟩) (g := (mkF m 676 #[vi p0, vi pk, vr uk, vr b21, .unset, .unset, .unset, .unset] [(.int 122), (.int 43), (.ref b225), (.ref b225)])) rfl rfl (hb hby at_676)
    have V365 : Arv Z h365 b225 k225 .char (65 : Int32) [(.int (nar .char (65 : Int32))), (.int (nar .char (98 : Int32))), (.int (nar .char (90 : Int32))), (.int (nar .char (122 : Int32))), (.int (nar .char (48 : Int32))), (.int (nar .char (57 : Int32))), (.int (nar .char (45 : Int32))), (.int (nar .char (95 : Int32))), (.int (nar .char (65 : Int32))), (.int (nar .char (98 : Int32))), (.int (nar .char (90 : Int32))), (.int (nar .char (122 : Int32))), (.int (nar .char (48 : Int32))), (.int (nar .char (57 : Int32))), (.int (nar .char (45 : Int32))), (.int (nar .char (95 : Int32))), (.int (nar .char (65 : Int32))), (.int (nar .char (98 : Int32))), (.int (nar .char (90 : Int32))), (.int (nar .char (122 : Int32))), (.int (nar .char (48 : Int32))), (.int (nar .char (57 : Int32))), (.int (nar .char (45 : Int32))), (.int (nar .char (95 : Int32))), (.int (nar .char (65 : Int32))), (.int (nar .char (98 : Int32))), (.int (nar .char (90 : Int32))), (.int (nar .char (122 : Int32))), (.int (nar .char (48 : Int32))), (.int (nar .char (57 : Int32))), (.int (nar .char (45 : Int32))), (.int (nar .char (95 : Int32))), (.int (nar .char (65 : Int32))), (.int (nar .char (98 : Int32))), (.int (nar .char (90 : Int32))), (.int (nar .char (122 : Int32))), (.int (nar .char (48 : Int32))), (.int (nar .char (57 : Int32))), (.int (nar .char (45 : Int32))), (.int (nar .char (95 : Int32))), (.int (nar .char (65 : Int32))), (.int (nar .char (98 : Int32))), (.int (nar .char (90 : Int32))), (.int (nar .char (122 : Int32))), (.int 0), (.int 0), (.int 0), (.int 0), (.int 0), (.int 0), (.int 0), (.int 0), (.int 0), (.int 0), (.int 0), (.int 0), (.int 0), (.int 0), (.int 0), (.int 0), (.int 0), (.int 0), (.int 0), (.int 0), (.int 0)] (.int 0) := Arv.set Ar365 q365 S365 Nn365 Ha365 G365 (fits_nar_char _) W365 43 rfl (Nat.le_of_ble_eq_true rfl)
    have c366 : SS p e below S0 (T365.setTop (mkF m 677 #[vi p0, vi pk, vr uk, vr b21, .unset, .unset, .unset, .unset] [(.ref b225)])) := c364.trans (st365 _ (Steps.refl _))
    have N365 := Fr.snoc X365 N362 (Nat.le_trans Z0 ge228)
    have z365 : n0 ≤ h365.size := Nat.le_trans z362 (Keep.of_wr W365).1
    have K365 := K362.wr W365 (Or.inr ge228)
    have c367 : SS p e below S0 (T365.setTop (mkF m 682 #[vi p0, vi pk, vr uk, vr b21, .unset, .unset, .unset, .unset] [(.int 48), (.int 44), (.ref b225), (.ref b225)])) := c366.trans (by
      show SS p e below (T365.setTop (mkF m 677 #[vi p0, vi pk, vr uk, vr b21, .unset, .unset, .unset, .unset] [(.ref b225)])) _
      refine XS.dup X365.here hx rfl (hb hby at_677) rfl rfl ?_
      refine XS.bipush X365.here hx rfl (hb hby at_678) ?_
      refine XS.bipush X365.here hx rfl (hb hby at_680) ?_
      exact Steps.refl _)
    obtain ⟨cl368, Ar368, q368, S368, Nn368, Ha368, G368⟩ := id V365
    obtain ⟨T368, h368, X368, e368, W368, st368⟩ := stC X365 hx hZ e365 Ar368 (j := (44 : Int32)) (inb_of S368 ⟨by decide, by decide⟩) (g := (mkF m 682 #[vi p0, vi pk, vr uk, vr b21, .unset, .unset, .unset, .unset] [(.int 48), (.int 44), (.ref b225), (.ref b225)])) rfl rfl (hb hby at_682)
    have V368 : Arv Z h368 b225 k225 .char (65 : Int32) [(.int (nar .char (65 : Int32))), (.int (nar .char (98 : Int32))), (.int (nar .char (90 : Int32))), (.int (nar .char (122 : Int32))), (.int (nar .char (48 : Int32))), (.int (nar .char (57 : Int32))), (.int (nar .char (45 : Int32))), (.int (nar .char (95 : Int32))), (.int (nar .char (65 : Int32))), (.int (nar .char (98 : Int32))), (.int (nar .char (90 : Int32))), (.int (nar .char (122 : Int32))), (.int (nar .char (48 : Int32))), (.int (nar .char (57 : Int32))), (.int (nar .char (45 : Int32))), (.int (nar .char (95 : Int32))), (.int (nar .char (65 : Int32))), (.int (nar .char (98 : Int32))), (.int (nar .char (90 : Int32))), (.int (nar .char (122 : Int32))), (.int (nar .char (48 : Int32))), (.int (nar .char (57 : Int32))), (.int (nar .char (45 : Int32))), (.int (nar .char (95 : Int32))), (.int (nar .char (65 : Int32))), (.int (nar .char (98 : Int32))), (.int (nar .char (90 : Int32))), (.int (nar .char (122 : Int32))), (.int (nar .char (48 : Int32))), (.int (nar .char (57 : Int32))), (.int (nar .char (45 : Int32))), (.int (nar .char (95 : Int32))), (.int (nar .char (65 : Int32))), (.int (nar .char (98 : Int32))), (.int (nar .char (90 : Int32))), (.int (nar .char (122 : Int32))), (.int (nar .char (48 : Int32))), (.int (nar .char (57 : Int32))), (.int (nar .char (45 : Int32))), (.int (nar .char (95 : Int32))), (.int (nar .char (65 : Int32))), (.int (nar .char (98 : Int32))), (.int (nar .char (90 : Int32))), (.int (nar .char (122 : Int32))), (.int (nar .char (48 : Int32))), (.int 0), (.int 0), (.int 0), (.int 0), (.int 0), (.int 0), (.int 0), (.int 0), (.int 0), (.int 0), (.int 0), (.int 0), (.int 0), (.int 0), (.int 0), (.int 0), (.int 0), (.int 0), (.int 0), (.int 0)] (.int 0) := Arv.set Ar368 q368 S368 Nn368 Ha368 G368 (fits_nar_char _) W368 44 rfl (Nat.le_of_ble_eq_true rfl)
    have c369 : SS p e below S0 (T368.setTop (mkF m 683 #[vi p0, vi pk, vr uk, vr b21, .unset, .unset, .unset, .unset] [(.ref b225)])) := c367.trans (st368 _ (Steps.refl _))
    have N368 := Fr.snoc X368 N365 (Nat.le_trans Z0 ge228)
    have z368 : n0 ≤ h368.size := Nat.le_trans z365 (Keep.of_wr W368).1
    have K368 := K365.wr W368 (Or.inr ge228)
    have c370 : SS p e below S0 (T368.setTop (mkF m 688 #[vi p0, vi pk, vr uk, vr b21, .unset, .unset, .unset, .unset] [(.int 57), (.int 45), (.ref b225), (.ref b225)])) := c369.trans (by
      show SS p e below (T368.setTop (mkF m 683 #[vi p0, vi pk, vr uk, vr b21, .unset, .unset, .unset, .unset] [(.ref b225)])) _
      refine XS.dup X368.here hx rfl (hb hby at_683) rfl rfl ?_
      refine XS.bipush X368.here hx rfl (hb hby at_684) ?_
      refine XS.bipush X368.here hx rfl (hb hby at_686) ?_
      exact Steps.refl _)
    obtain ⟨cl371, Ar371, q371, S371, Nn371, Ha371, G371⟩ := id V368
    obtain ⟨T371, h371, X371, e371, W371, st371⟩ := stC X368 hx hZ e368 Ar371 (j := (45 : Int32)) (inb_of S371 ⟨by decide, by decide⟩) (g := (mkF m 688 #[vi p0, vi pk, vr uk, vr b21, .unset, .unset, .unset, .unset] [(.int 57), (.int 45), (.ref b225), (.ref b225)])) rfl rfl (hb hby at_688)
    have V371 : Arv Z h371 b225 k225 .char (65 : Int32) [(.int (nar .char (65 : Int32))), (.int (nar .char (98 : Int32))), (.int (nar .char (90 : Int32))), (.int (nar .char (122 : Int32))), (.int (nar .char (48 : Int32))), (.int (nar .char (57 : Int32))), (.int (nar .char (45 : Int32))), (.int (nar .char (95 : Int32))), (.int (nar .char (65 : Int32))), (.int (nar .char (98 : Int32))), (.int (nar .char (90 : Int32))), (.int (nar .char (122 : Int32))), (.int (nar .char (48 : Int32))), (.int (nar .char (57 : Int32))), (.int (nar .char (45 : Int32))), (.int (nar .char (95 : Int32))), (.int (nar .char (65 : Int32))), (.int (nar .char (98 : Int32))), (.int (nar .char (90 : Int32))), (.int (nar .char (122 : Int32))), (.int (nar .char (48 : Int32))), (.int (nar .char (57 : Int32))), (.int (nar .char (45 : Int32))), (.int (nar .char (95 : Int32))), (.int (nar .char (65 : Int32))), (.int (nar .char (98 : Int32))), (.int (nar .char (90 : Int32))), (.int (nar .char (122 : Int32))), (.int (nar .char (48 : Int32))), (.int (nar .char (57 : Int32))), (.int (nar .char (45 : Int32))), (.int (nar .char (95 : Int32))), (.int (nar .char (65 : Int32))), (.int (nar .char (98 : Int32))), (.int (nar .char (90 : Int32))), (.int (nar .char (122 : Int32))), (.int (nar .char (48 : Int32))), (.int (nar .char (57 : Int32))), (.int (nar .char (45 : Int32))), (.int (nar .char (95 : Int32))), (.int (nar .char (65 : Int32))), (.int (nar .char (98 : Int32))), (.int (nar .char (90 : Int32))), (.int (nar .char (122 : Int32))), (.int (nar .char (48 : Int32))), (.int (nar .char (57 : Int32))), (.int 0), (.int 0), (.int 0), (.int 0), (.int 0), (.int 0), (.int 0), (.int 0), (.int 0), (.int 0), (.int 0), (.int 0), (.int 0), (.int 0), (.int 0), (.int 0), (.int 0), (.int 0), (.int 0)] (.int 0) := Arv.set Ar371 q371 S371 Nn371 Ha371 G371 (fits_nar_char _) W371 45 rfl (Nat.le_of_ble_eq_true rfl)
    have c372 : SS p e below S0 (T371.setTop (mkF m 689 #[vi p0, vi pk, vr uk, vr b21, .unset, .unset, .unset, .unset] [(.ref b225)])) := c370.trans (st371 _ (Steps.refl _))
    have N371 := Fr.snoc X371 N368 (Nat.le_trans Z0 ge228)
    have z371 : n0 ≤ h371.size := Nat.le_trans z368 (Keep.of_wr W371).1
    have K371 := K368.wr W371 (Or.inr ge228)
    have c373 : SS p e below S0 (T371.setTop (mkF m 694 #[vi p0, vi pk, vr uk, vr b21, .unset, .unset, .unset, .unset] [(.int 45), (.int 46), (.ref b225), (.ref b225)])) := c372.trans (by
      show SS p e below (T371.setTop (mkF m 689 #[vi p0, vi pk, vr uk, vr b21, .unset, .unset, .unset, .unset] [(.ref b225)])) _
      refine XS.dup X371.here hx rfl (hb hby at_689) rfl rfl ?_
      refine XS.bipush X371.here hx rfl (hb hby at_690) ?_
      refine XS.bipush X371.here hx rfl (hb hby at_692) ?_
      exact Steps.refl _)
    obtain ⟨cl374, Ar374, q374, S374, Nn374, Ha374, G374⟩ := id V371
    obtain ⟨T374, h374, X374, e374, W374, st374⟩ := stC X371 hx hZ e371 Ar374 (j := (46 : Int32)) (inb_of S374 ⟨by decide, by decide⟩) (g := (mkF m 694 #[vi p0, vi pk, vr uk, vr b21, .unset, .unset, .unset, .unset] [(.int 45), (.int 46), (.ref b225), (.ref b225)])) rfl rfl (hb hby at_694)
    have V374 : Arv Z h374 b225 k225 .char (65 : Int32) [(.int (nar .char (65 : Int32))), (.int (nar .char (98 : Int32))), (.int (nar .char (90 : Int32))), (.int (nar .char (122 : Int32))), (.int (nar .char (48 : Int32))), (.int (nar .char (57 : Int32))), (.int (nar .char (45 : Int32))), (.int (nar .char (95 : Int32))), (.int (nar .char (65 : Int32))), (.int (nar .char (98 : Int32))), (.int (nar .char (90 : Int32))), (.int (nar .char (122 : Int32))), (.int (nar .char (48 : Int32))), (.int (nar .char (57 : Int32))), (.int (nar .char (45 : Int32))), (.int (nar .char (95 : Int32))), (.int (nar .char (65 : Int32))), (.int (nar .char (98 : Int32))), (.int (nar .char (90 : Int32))), (.int (nar .char (122 : Int32))), (.int (nar .char (48 : Int32))), (.int (nar .char (57 : Int32))), (.int (nar .char (45 : Int32))), (.int (nar .char (95 : Int32))), (.int (nar .char (65 : Int32))), (.int (nar .char (98 : Int32))), (.int (nar .char (90 : Int32))), (.int (nar .char (122 : Int32))), (.int (nar .char (48 : Int32))), (.int (nar .char (57 : Int32))), (.int (nar .char (45 : Int32))), (.int (nar .char (95 : Int32))), (.int (nar .char (65 : Int32))), (.int (nar .char (98 : Int32))), (.int (nar .char (90 : Int32))), (.int (nar .char (122 : Int32))), (.int (nar .char (48 : Int32))), (.int (nar .char (57 : Int32))), (.int (nar .char (45 : Int32))), (.int (nar .char (95 : Int32))), (.int (nar .char (65 : Int32))), (.int (nar .char (98 : Int32))), (.int (nar .char (90 : Int32))), (.int (nar .char (122 : Int32))), (.int (nar .char (48 : Int32))), (.int (nar .char (57 : Int32))), (.int (nar .char (45 : Int32))), (.int 0), (.int 0), (.int 0), (.int 0), (.int 0), (.int 0), (.int 0), (.int 0), (.int 0), (.int 0), (.int 0), (.int 0), (.int 0), (.int 0), (.int 0), (.int 0), (.int 0), (.int 0)] (.int 0) := Arv.set Ar374 q374 S374 Nn374 Ha374 G374 (fits_nar_char _) W374 46 rfl (Nat.le_of_ble_eq_true rfl)
    have c375 : SS p e below S0 (T374.setTop (mkF m 695 #[vi p0, vi pk, vr uk, vr b21, .unset, .unset, .unset, .unset] [(.ref b225)])) := c373.trans (st374 _ (Steps.refl _))
    have N374 := Fr.snoc X374 N371 (Nat.le_trans Z0 ge228)
    have z374 : n0 ≤ h374.size := Nat.le_trans z371 (Keep.of_wr W374).1
    have K374 := K371.wr W374 (Or.inr ge228)
    have c376 : SS p e below S0 (T374.setTop (mkF m 700 #[vi p0, vi pk, vr uk, vr b21, .unset, .unset, .unset, .unset] [(.int 95), (.int 47), (.ref b225), (.ref b225)])) := c375.trans (by
      show SS p e below (T374.setTop (mkF m 695 #[vi p0, vi pk, vr uk, vr b21, .unset, .unset, .unset, .unset] [(.ref b225)])) _
      refine XS.dup X374.here hx rfl (hb hby at_695) rfl rfl ?_
      refine XS.bipush X374.here hx rfl (hb hby at_696) ?_
      refine XS.bipush X374.here hx rfl (hb hby at_698) ?_
      exact Steps.refl _)
    obtain ⟨cl377, Ar377, q377, S377, Nn377, Ha377, G377⟩ := id V374
    obtain ⟨T377, h377, X377, e377, W377, st377⟩ := stC X374 hx hZ e374 Ar377 (j := (47 : Int32)) (inb_of S377 ⟨by decide, by decide⟩) (g := (mkF m 700 #[vi p0, vi pk, vr uk, vr b21, .unset, .unset, .unset, .unset] [(.int 95), (.int 47), (.ref b225), (.ref b225)])) rfl rfl (hb hby at_700)
    have V377 : Arv Z h377 b225 k225 .char (65 : Int32) [(.int (nar .char (65 : Int32))), (.int (nar .char (98 : Int32))), (.int (nar .char (90 : Int32))), (.int (nar .char (122 : Int32))), (.int (nar .char (48 : Int32))), (.int (nar .char (57 : Int32))), (.int (nar .char (45 : Int32))), (.int (nar .char (95 : Int32))), (.int (nar .char (65 : Int32))), (.int (nar .char (98 : Int32))), (.int (nar .char (90 : Int32))), (.int (nar .char (122 : Int32))), (.int (nar .char (48 : Int32))), (.int (nar .char (57 : Int32))), (.int (nar .char (45 : Int32))), (.int (nar .char (95 : Int32))), (.int (nar .char (65 : Int32))), (.int (nar .char (98 : Int32))), (.int (nar .char (90 : Int32))), (.int (nar .char (122 : Int32))), (.int (nar .char (48 : Int32))), (.int (nar .char (57 : Int32))), (.int (nar .char (45 : Int32))), (.int (nar .char (95 : Int32))), (.int (nar .char (65 : Int32))), (.int (nar .char (98 : Int32))), (.int (nar .char (90 : Int32))), (.int (nar .char (122 : Int32))), (.int (nar .char (48 : Int32))), (.int (nar .char (57 : Int32))), (.int (nar .char (45 : Int32))), (.int (nar .char (95 : Int32))), (.int (nar .char (65 : Int32))), (.int (nar .char (98 : Int32))), (.int (nar .char (90 : Int32))), (.int (nar .char (122 : Int32))), (.int (nar .char (48 : Int32))), (.int (nar .char (57 : Int32))), (.int (nar .char (45 : Int32))), (.int (nar .char (95 : Int32))), (.int (nar .char (65 : Int32))), (.int (nar .char (98 : Int32))), (.int (nar .char (90 : Int32))), (.int (nar .char (122 : Int32))), (.int (nar .char (48 : Int32))), (.int (nar .char (57 : Int32))), (.int (nar .char (45 : Int32))), (.int (nar .char (95 : Int32))), (.int 0), (.int 0), (.int 0), (.int 0), (.int 0), (.int 0), (.int 0), (.int 0), (.int 0), (.int 0), (.int 0), (.int 0), (.int 0), (.int 0), (.int 0), (.int 0), (.int 0)] (.int 0) := Arv.set Ar377 q377 S377 Nn377 Ha377 G377 (fits_nar_char _) W377 47 rfl (Nat.le_of_ble_eq_true rfl)
    have c378 : SS p e below S0 (T377.setTop (mkF m 701 #[vi p0, vi pk, vr uk, vr b21, .unset, .unset, .unset, .unset] [(.ref b225)])) := c376.trans (st377 _ (Steps.refl _))
    have N377 := Fr.snoc X377 N374 (Nat.le_trans Z0 ge228)
    have z377 : n0 ≤ h377.size := Nat.le_trans z374 (Keep.of_wr W377).1
    have K377 := K374.wr W377 (Or.inr ge228)
    exact ⟨T377, _, _, N377, X377, e377, K377, z377, ((((((((O329.wr W356 (Nat.le_trans Z0 ge228)).wr W359 (Nat.le_trans Z0 ge228)).wr W362 (Nat.le_trans Z0 ge228)).wr W365 (Nat.le_trans Z0 ge228)).wr W368 (Nat.le_trans Z0 ge228)).wr W371 (Nat.le_trans Z0 ge228)).wr W374 (Nat.le_trans Z0 ge228)).wr W377 (Nat.le_trans Z0 ge228)), ((((((((V329_b21.other W356 ne227).other W359 ne227).other W362 ne227).other W365 ne227).other W368 ne227).other W371 ne227).other W374 ne227).other W377 ne227), V377, c378⟩
  obtain ⟨T379, h379, l379, N379, X379, e379, K379, z379, O379, V379_b21, V379_b225, c379⟩ : ∃ (T : State) (h : Heap) (locs : List Loc), Fr n0 locs ∧ Stand p l e room_1 s m #[(.int p0)] below meth c T locs 2 129 ∧ T.heap = h ∧ Keep h0 h [] ∧ n0 ≤ h.size ∧ Old Z n0 h ∧ Arv Z h b21 k21 .char (64 : Int32) [(.int (nar .char (65 : Int32))), (.int (nar .char (98 : Int32))), (.int (nar .char (90 : Int32))), (.int (nar .char (122 : Int32))), (.int (nar .char (48 : Int32))), (.int (nar .char (57 : Int32))), (.int (nar .char (45 : Int32))), (.int (nar .char (95 : Int32))), (.int (nar .char (65 : Int32))), (.int (nar .char (98 : Int32))), (.int (nar .char (90 : Int32))), (.int (nar .char (122 : Int32))), (.int (nar .char (48 : Int32))), (.int (nar .char (57 : Int32))), (.int (nar .char (45 : Int32))), (.int (nar .char (95 : Int32))), (.int (nar .char (65 : Int32))), (.int (nar .char (98 : Int32))), (.int (nar .char (90 : Int32))), (.int (nar .char (122 : Int32))), (.int (nar .char (48 : Int32))), (.int (nar .char (57 : Int32))), (.int (nar .char (45 : Int32))), (.int (nar .char (95 : Int32))), (.int (nar .char (65 : Int32))), (.int (nar .char (98 : Int32))), (.int (nar .char (90 : Int32))), (.int (nar .char (122 : Int32))), (.int (nar .char (48 : Int32))), (.int (nar .char (57 : Int32))), (.int (nar .char (45 : Int32))), (.int (nar .char (95 : Int32))), (.int (nar .char (65 : Int32))), (.int (nar .char (98 : Int32))), (.int (nar .char (90 : Int32))), (.int (nar .char (122 : Int32))), (.int (nar .char (48 : Int32))), (.int (nar .char (57 : Int32))), (.int (nar .char (45 : Int32))), (.int (nar .char (95 : Int32))), (.int (nar .char (65 : Int32))), (.int (nar .char (98 : Int32))), (.int (nar .char (90 : Int32))), (.int (nar .char (122 : Int32))), (.int (nar .char (48 : Int32))), (.int (nar .char (57 : Int32))), (.int (nar .char (45 : Int32))), (.int (nar .char (95 : Int32))), (.int (nar .char (65 : Int32))), (.int (nar .char (98 : Int32))), (.int (nar .char (90 : Int32))), (.int (nar .char (122 : Int32))), (.int (nar .char (48 : Int32))), (.int (nar .char (57 : Int32))), (.int (nar .char (45 : Int32))), (.int (nar .char (95 : Int32))), (.int (nar .char (65 : Int32))), (.int (nar .char (98 : Int32))), (.int (nar .char (90 : Int32))), (.int (nar .char (122 : Int32))), (.int (nar .char (48 : Int32))), (.int (nar .char (57 : Int32))), (.int (nar .char (45 : Int32))), (.int (nar .char (95 : Int32)))] (.int 0) ∧ Arv Z h b225 k225 .char (65 : Int32) [(.int (nar .char (65 : Int32))), (.int (nar .char (98 : Int32))), (.int (nar .char (90 : Int32))), (.int (nar .char (122 : Int32))), (.int (nar .char (48 : Int32))), (.int (nar .char (57 : Int32))), (.int (nar .char (45 : Int32))), (.int (nar .char (95 : Int32))), (.int (nar .char (65 : Int32))), (.int (nar .char (98 : Int32))), (.int (nar .char (90 : Int32))), (.int (nar .char (122 : Int32))), (.int (nar .char (48 : Int32))), (.int (nar .char (57 : Int32))), (.int (nar .char (45 : Int32))), (.int (nar .char (95 : Int32))), (.int (nar .char (65 : Int32))), (.int (nar .char (98 : Int32))), (.int (nar .char (90 : Int32))), (.int (nar .char (122 : Int32))), (.int (nar .char (48 : Int32))), (.int (nar .char (57 : Int32))), (.int (nar .char (45 : Int32))), (.int (nar .char (95 : Int32))), (.int (nar .char (65 : Int32))), (.int (nar .char (98 : Int32))), (.int (nar .char (90 : Int32))), (.int (nar .char (122 : Int32))), (.int (nar .char (48 : Int32))), (.int (nar .char (57 : Int32))), (.int (nar .char (45 : Int32))), (.int (nar .char (95 : Int32))), (.int (nar .char (65 : Int32))), (.int (nar .char (98 : Int32))), (.int (nar .char (90 : Int32))), (.int (nar .char (122 : Int32))), (.int (nar .char (48 : Int32))), (.int (nar .char (57 : Int32))), (.int (nar .char (45 : Int32))), (.int (nar .char (95 : Int32))), (.int (nar .char (65 : Int32))), (.int (nar .char (98 : Int32))), (.int (nar .char (90 : Int32))), (.int (nar .char (122 : Int32))), (.int (nar .char (48 : Int32))), (.int (nar .char (57 : Int32))), (.int (nar .char (45 : Int32))), (.int (nar .char (95 : Int32))), (.int (nar .char (65 : Int32))), (.int (nar .char (98 : Int32))), (.int (nar .char (90 : Int32))), (.int (nar .char (122 : Int32))), (.int (nar .char (48 : Int32))), (.int (nar .char (57 : Int32))), (.int (nar .char (45 : Int32))), (.int (nar .char (95 : Int32))), (.int 0), (.int 0), (.int 0), (.int 0), (.int 0), (.int 0), (.int 0), (.int 0), (.int 0)] (.int 0) ∧ SS p e below S0 (T.setTop (mkF m 749 #[vi p0, vi pk, vr uk, vr b21, .unset, .unset, .unset, .unset] [(.ref b225)])) := by
    have c380 : SS p e below S0 (T354.setTop (mkF m 706 #[vi p0, vi pk, vr uk, vr b21, .unset, .unset, .unset, .unset] [(.int 65), (.int 48), (.ref b225), (.ref b225)])) := c354.trans (by
      show SS p e below (T354.setTop (mkF m 701 #[vi p0, vi pk, vr uk, vr b21, .unset, .unset, .unset, .unset] [(.ref b225)])) _
      refine XS.dup X354.here hx rfl (hb hby at_701) rfl rfl ?_
      refine XS.bipush X354.here hx rfl (hb hby at_702) ?_
      refine XS.bipush X354.here hx rfl (hb hby at_704) ?_
      exact Steps.refl _)
    obtain ⟨cl381, Ar381, q381, S381, Nn381, Ha381, G381⟩ := id V354_b225
    obtain ⟨T381, h381, X381, e381, W381, st381⟩ := stC X354 hx hZ e354 Ar381 (j := (48 : Int32)) (inb_of S381 ⟨by decide, by decide⟩) (g := (mkF m 706 #[vi p0, vi pk, vr uk, vr b21, .unset, .unset, .unset, .unset] [(.int 65), (.int 48), (.ref b225), (.ref b225)])) rfl rfl (hb hby at_706)
    have V381 : Arv Z h381 b225 k225 .char (65 : Int32) [(.int (nar .char (65 : Int32))), (.int (nar .char (98 : Int32))), (.int (nar .char (90 : Int32))), (.int (nar .char (122 : Int32))), (.int (nar .char (48 : Int32))), (.int (nar .char (57 : Int32))), (.int (nar .char (45 : Int32))), (.int (nar .char (95 : Int32))), (.int (nar .char (65 : Int32))), (.int (nar .char (98 : Int32))), (.int (nar .char (90 : Int32))), (.int (nar .char (122 : Int32))), (.int (nar .char (48 : Int32))), (.int (nar .char (57 : Int32))), (.int (nar .char (45 : Int32))), (.int (nar .char (95 : Int32))), (.int (nar .char (65 : Int32))), (.int (nar .char (98 : Int32))), (.int (nar .char (90 : Int32))), (.int (nar .char (122 : Int32))), (.int (nar .char (48 : Int32))), (.int (nar .char (57 : Int32))), (.int (nar .char (45 : Int32))), (.int (nar .char (95 : Int32))), (.int (nar .char (65 : Int32))), (.int (nar .char (98 : Int32))), (.int (nar .char (90 : Int32))), (.int (nar .char (122 : Int32))), (.int (nar .char (48 : Int32))), (.int (nar .char (57 : Int32))), (.int (nar .char (45 : Int32))), (.int (nar .char (95 : Int32))), (.int (nar .char (65 : Int32))), (.int (nar .char (98 : Int32))), (.int (nar .char (90 : Int32))), (.int (nar .char (122 : Int32))), (.int (nar .char (48 : Int32))), (.int (nar .char (57 : Int32))), (.int (nar .char (45 : Int32))), (.int (nar .char (95 : Int32))), (.int (nar .char (65 : Int32))), (.int (nar .char (98 : Int32))), (.int (nar .char (90 : Int32))), (.int (nar .char (122 : Int32))), (.int (nar .char (48 : Int32))), (.int (nar .char (57 : Int32))), (.int (nar .char (45 : Int32))), (.int (nar .char (95 : Int32))), (.int (nar .char (65 : Int32))), (.int 0), (.int 0), (.int 0), (.int 0), (.int 0), (.int 0), (.int 0), (.int 0), (.int 0), (.int 0), (.int 0), (.int 0), (.int 0), (.int 0), (.int 0), (.int 0)] (.int 0) := Arv.set Ar381 q381 S381 Nn381 Ha381 G381 (fits_nar_char _) W381 48 rfl (Nat.le_of_ble_eq_true rfl)
    have c382 : SS p e below S0 (T381.setTop (mkF m 707 #[vi p0, vi pk, vr uk, vr b21, .unset, .unset, .unset, .unset] [(.ref b225)])) := c380.trans (st381 _ (Steps.refl _))
    have N381 := Fr.snoc X381 N354 (Nat.le_trans Z0 ge228)
    have z381 : n0 ≤ h381.size := Nat.le_trans z354 (Keep.of_wr W381).1
    have K381 := K354.wr W381 (Or.inr ge228)
    have c383 : SS p e below S0 (T381.setTop (mkF m 712 #[vi p0, vi pk, vr uk, vr b21, .unset, .unset, .unset, .unset] [(.int 98), (.int 49), (.ref b225), (.ref b225)])) := c382.trans (by
      show SS p e below (T381.setTop (mkF m 707 #[vi p0, vi pk, vr uk, vr b21, .unset, .unset, .unset, .unset] [(.ref b225)])) _
      refine XS.dup X381.here hx rfl (hb hby at_707) rfl rfl ?_
      refine XS.bipush X381.here hx rfl (hb hby at_708) ?_
      refine XS.bipush X381.here hx rfl (hb hby at_710) ?_
      exact Steps.refl _)
    obtain ⟨cl384, Ar384, q384, S384, Nn384, Ha384, G384⟩ := id V381
    obtain ⟨T384, h384, X384, e384, W384, st384⟩ := stC X381 hx hZ e381 Ar384 (j := (49 : Int32)) (inb_of S384 ⟨by decide, by decide⟩) (g := (mkF m 712 #[vi p0, vi pk, vr uk, vr b21, .unset, .unset, .unset, .unset] [(.int 98), (.int 49), (.ref b225), (.ref b225)])) rfl rfl (hb hby at_712)
    have V384 : Arv Z h384 b225 k225 .char (65 : Int32) [(.int (nar .char (65 : Int32))), (.int (nar .char (98 : Int32))), (.int (nar .char (90 : Int32))), (.int (nar .char (122 : Int32))), (.int (nar .char (48 : Int32))), (.int (nar .char (57 : Int32))), (.int (nar .char (45 : Int32))), (.int (nar .char (95 : Int32))), (.int (nar .char (65 : Int32))), (.int (nar .char (98 : Int32))), (.int (nar .char (90 : Int32))), (.int (nar .char (122 : Int32))), (.int (nar .char (48 : Int32))), (.int (nar .char (57 : Int32))), (.int (nar .char (45 : Int32))), (.int (nar .char (95 : Int32))), (.int (nar .char (65 : Int32))), (.int (nar .char (98 : Int32))), (.int (nar .char (90 : Int32))), (.int (nar .char (122 : Int32))), (.int (nar .char (48 : Int32))), (.int (nar .char (57 : Int32))), (.int (nar .char (45 : Int32))), (.int (nar .char (95 : Int32))), (.int (nar .char (65 : Int32))), (.int (nar .char (98 : Int32))), (.int (nar .char (90 : Int32))), (.int (nar .char (122 : Int32))), (.int (nar .char (48 : Int32))), (.int (nar .char (57 : Int32))), (.int (nar .char (45 : Int32))), (.int (nar .char (95 : Int32))), (.int (nar .char (65 : Int32))), (.int (nar .char (98 : Int32))), (.int (nar .char (90 : Int32))), (.int (nar .char (122 : Int32))), (.int (nar .char (48 : Int32))), (.int (nar .char (57 : Int32))), (.int (nar .char (45 : Int32))), (.int (nar .char (95 : Int32))), (.int (nar .char (65 : Int32))), (.int (nar .char (98 : Int32))), (.int (nar .char (90 : Int32))), (.int (nar .char (122 : Int32))), (.int (nar .char (48 : Int32))), (.int (nar .char (57 : Int32))), (.int (nar .char (45 : Int32))), (.int (nar .char (95 : Int32))), (.int (nar .char (65 : Int32))), (.int (nar .char (98 : Int32))), (.int 0), (.int 0), (.int 0), (.int 0), (.int 0), (.int 0), (.int 0), (.int 0), (.int 0), (.int 0), (.int 0), (.int 0), (.int 0), (.int 0), (.int 0)] (.int 0) := Arv.set Ar384 q384 S384 Nn384 Ha384 G384 (fits_nar_char _) W384 49 rfl (Nat.le_of_ble_eq_true rfl)
    have c385 : SS p e below S0 (T384.setTop (mkF m 713 #[vi p0, vi pk, vr uk, vr b21, .unset, .unset, .unset, .unset] [(.ref b225)])) := c383.trans (st384 _ (Steps.refl _))
    have N384 := Fr.snoc X384 N381 (Nat.le_trans Z0 ge228)
    have z384 : n0 ≤ h384.size := Nat.le_trans z381 (Keep.of_wr W384).1
    have K384 := K381.wr W384 (Or.inr ge228)
    have c386 : SS p e below S0 (T384.setTop (mkF m 718 #[vi p0, vi pk, vr uk, vr b21, .unset, .unset, .unset, .unset] [(.int 90), (.int 50), (.ref b225), (.ref b225)])) := c385.trans (by
      show SS p e below (T384.setTop (mkF m 713 #[vi p0, vi pk, vr uk, vr b21, .unset, .unset, .unset, .unset] [(.ref b225)])) _
      refine XS.dup X384.here hx rfl (hb hby at_713) rfl rfl ?_
      refine XS.bipush X384.here hx rfl (hb hby at_714) ?_
      refine XS.bipush X384.here hx rfl (hb hby at_716) ?_
      exact Steps.refl _)
    obtain ⟨cl387, Ar387, q387, S387, Nn387, Ha387, G387⟩ := id V384
    obtain ⟨T387, h387, X387, e387, W387, st387⟩ := stC X384 hx hZ e384 Ar387 (j := (50 : Int32)) (inb_of S387 ⟨by decide, by decide⟩) (g := (mkF m 718 #[vi p0, vi pk, vr uk, vr b21, .unset, .unset, .unset, .unset] [(.int 90), (.int 50), (.ref b225), (.ref b225)])) rfl rfl (hb hby at_718)
    have V387 : Arv Z h387 b225 k225 .char (65 : Int32) [(.int (nar .char (65 : Int32))), (.int (nar .char (98 : Int32))), (.int (nar .char (90 : Int32))), (.int (nar .char (122 : Int32))), (.int (nar .char (48 : Int32))), (.int (nar .char (57 : Int32))), (.int (nar .char (45 : Int32))), (.int (nar .char (95 : Int32))), (.int (nar .char (65 : Int32))), (.int (nar .char (98 : Int32))), (.int (nar .char (90 : Int32))), (.int (nar .char (122 : Int32))), (.int (nar .char (48 : Int32))), (.int (nar .char (57 : Int32))), (.int (nar .char (45 : Int32))), (.int (nar .char (95 : Int32))), (.int (nar .char (65 : Int32))), (.int (nar .char (98 : Int32))), (.int (nar .char (90 : Int32))), (.int (nar .char (122 : Int32))), (.int (nar .char (48 : Int32))), (.int (nar .char (57 : Int32))), (.int (nar .char (45 : Int32))), (.int (nar .char (95 : Int32))), (.int (nar .char (65 : Int32))), (.int (nar .char (98 : Int32))), (.int (nar .char (90 : Int32))), (.int (nar .char (122 : Int32))), (.int (nar .char (48 : Int32))), (.int (nar .char (57 : Int32))), (.int (nar .char (45 : Int32))), (.int (nar .char (95 : Int32))), (.int (nar .char (65 : Int32))), (.int (nar .char (98 : Int32))), (.int (nar .char (90 : Int32))), (.int (nar .char (122 : Int32))), (.int (nar .char (48 : Int32))), (.int (nar .char (57 : Int32))), (.int (nar .char (45 : Int32))), (.int (nar .char (95 : Int32))), (.int (nar .char (65 : Int32))), (.int (nar .char (98 : Int32))), (.int (nar .char (90 : Int32))), (.int (nar .char (122 : Int32))), (.int (nar .char (48 : Int32))), (.int (nar .char (57 : Int32))), (.int (nar .char (45 : Int32))), (.int (nar .char (95 : Int32))), (.int (nar .char (65 : Int32))), (.int (nar .char (98 : Int32))), (.int (nar .char (90 : Int32))), (.int 0), (.int 0), (.int 0), (.int 0), (.int 0), (.int 0), (.int 0), (.int 0), (.int 0), (.int 0), (.int 0), (.int 0), (.int 0), (.int 0)] (.int 0) := Arv.set Ar387 q387 S387 Nn387 Ha387 G387 (fits_nar_char _) W387 50 rfl (Nat.le_of_ble_eq_true rfl)
    have c388 : SS p e below S0 (T387.setTop (mkF m 719 #[vi p0, vi pk, vr uk, vr b21, .unset, .unset, .unset, .unset] [(.ref b225)])) := c386.trans (st387 _ (Steps.refl _))
    have N387 := Fr.snoc X387 N384 (Nat.le_trans Z0 ge228)
    have z387 : n0 ≤ h387.size := Nat.le_trans z384 (Keep.of_wr W387).1
    have K387 := K384.wr W387 (Or.inr ge228)
    have c389 : SS p e below S0 (T387.setTop (mkF m 724 #[vi p0, vi pk, vr uk, vr b21, .unset, .unset, .unset, .unset] [(.int 122), (.int 51), (.ref b225), (.ref b225)])) := c388.trans (by
      show SS p e below (T387.setTop (mkF m 719 #[vi p0, vi pk, vr uk, vr b21, .unset, .unset, .unset, .unset] [(.ref b225)])) _
      refine XS.dup X387.here hx rfl (hb hby at_719) rfl rfl ?_
      refine XS.bipush X387.here hx rfl (hb hby at_720) ?_
      refine XS.bipush X387.here hx rfl (hb hby at_722) ?_
      exact Steps.refl _)
    obtain ⟨cl390, Ar390, q390, S390, Nn390, Ha390, G390⟩ := id V387
    obtain ⟨T390, h390, X390, e390, W390, st390⟩ := stC X387 hx hZ e387 Ar390 (j := (51 : Int32)) (inb_of S390 ⟨by decide, by decide⟩) (g := (mkF m 724 #[vi p0, vi pk, vr uk, vr b21, .unset, .unset, .unset, .unset] [(.int 122), (.int 51), (.ref b225), (.ref b225)])) rfl rfl (hb hby at_724)
    have V390 : Arv Z h390 b225 k225 .char (65 : Int32) [(.int (nar .char (65 : Int32))), (.int (nar .char (98 : Int32))), (.int (nar .char (90 : Int32))), (.int (nar .char (122 : Int32))), (.int (nar .char (48 : Int32))), (.int (nar .char (57 : Int32))), (.int (nar .char (45 : Int32))), (.int (nar .char (95 : Int32))), (.int (nar .char (65 : Int32))), (.int (nar .char (98 : Int32))), (.int (nar .char (90 : Int32))), (.int (nar .char (122 : Int32))), (.int (nar .char (48 : Int32))), (.int (nar .char (57 : Int32))), (.int (nar .char (45 : Int32))), (.int (nar .char (95 : Int32))), (.int (nar .char (65 : Int32))), (.int (nar .char (98 : Int32))), (.int (nar .char (90 : Int32))), (.int (nar .char (122 : Int32))), (.int (nar .char (48 : Int32))), (.int (nar .char (57 : Int32))), (.int (nar .char (45 : Int32))), (.int (nar .char (95 : Int32))), (.int (nar .char (65 : Int32))), (.int (nar .char (98 : Int32))), (.int (nar .char (90 : Int32))), (.int (nar .char (122 : Int32))), (.int (nar .char (48 : Int32))), (.int (nar .char (57 : Int32))), (.int (nar .char (45 : Int32))), (.int (nar .char (95 : Int32))), (.int (nar .char (65 : Int32))), (.int (nar .char (98 : Int32))), (.int (nar .char (90 : Int32))), (.int (nar .char (122 : Int32))), (.int (nar .char (48 : Int32))), (.int (nar .char (57 : Int32))), (.int (nar .char (45 : Int32))), (.int (nar .char (95 : Int32))), (.int (nar .char (65 : Int32))), (.int (nar .char (98 : Int32))), (.int (nar .char (90 : Int32))), (.int (nar .char (122 : Int32))), (.int (nar .char (48 : Int32))), (.int (nar .char (57 : Int32))), (.int (nar .char (45 : Int32))), (.int (nar .char (95 : Int32))), (.int (nar .char (65 : Int32))), (.int (nar .char (98 : Int32))), (.int (nar .char (90 : Int32))), (.int (nar .char (122 : Int32))), (.int 0), (.int 0), (.int 0), (.int 0), (.int 0), (.int 0), (.int 0), (.int 0), (.int 0), (.int 0), (.int 0), (.int 0), (.int 0)] (.int 0) := Arv.set Ar390 q390 S390 Nn390 Ha390 G390 (fits_nar_char _) W390 51 rfl (Nat.le_of_ble_eq_true rfl)
    have c391 : SS p e below S0 (T390.setTop (mkF m 725 #[vi p0, vi pk, vr uk, vr b21, .unset, .unset, .unset, .unset] [(.ref b225)])) := c389.trans (st390 _ (Steps.refl _))
    have N390 := Fr.snoc X390 N387 (Nat.le_trans Z0 ge228)
    have z390 : n0 ≤ h390.size := Nat.le_trans z387 (Keep.of_wr W390).1
    have K390 := K387.wr W390 (Or.inr ge228)
    have c392 : SS p e below S0 (T390.setTop (mkF m 730 #[vi p0, vi pk, vr uk, vr b21, .unset, .unset, .unset, .unset] [(.int 48), (.int 52), (.ref b225), (.ref b225)])) := c391.trans (by
      show SS p e below (T390.setTop (mkF m 725 #[vi p0, vi pk, vr uk, vr b21, .unset, .unset, .unset, .unset] [(.ref b225)])) _
      refine XS.dup X390.here hx rfl (hb hby at_725) rfl rfl ?_
      refine XS.bipush X390.here hx rfl (hb hby at_726) ?_
      refine XS.bipush X390.here hx rfl (hb hby at_728) ?_
      exact Steps.refl _)
    obtain ⟨cl393, Ar393, q393, S393, Nn393, Ha393, G393⟩ := id V390
    obtain ⟨T393, h393, X393, e393, W393, st393⟩ := stC X390 hx hZ e390 Ar393 (j := (52 : Int32)) (inb_of S393 ⟨by decide, by decide⟩) (g := (mkF m 730 #[vi p0, vi pk, vr uk, vr b21, .unset, .unset, .unset, .unset] [(.int 48), (.int 52), (.ref b225), (.ref b225)])) rfl rfl (hb hby at_730)
    have V393 : Arv Z h393 b225 k225 .char (65 : Int32) [(.int (nar .char (65 : Int32))), (.int (nar .char (98 : Int32))), (.int (nar .char (90 : Int32))), (.int (nar .char (122 : Int32))), (.int (nar .char (48 : Int32))), (.int (nar .char (57 : Int32))), (.int (nar .char (45 : Int32))), (.int (nar .char (95 : Int32))), (.int (nar .char (65 : Int32))), (.int (nar .char (98 : Int32))), (.int (nar .char (90 : Int32))), (.int (nar .char (122 : Int32))), (.int (nar .char (48 : Int32))), (.int (nar .char (57 : Int32))), (.int (nar .char (45 : Int32))), (.int (nar .char (95 : Int32))), (.int (nar .char (65 : Int32))), (.int (nar .char (98 : Int32))), (.int (nar .char (90 : Int32))), (.int (nar .char (122 : Int32))), (.int (nar .char (48 : Int32))), (.int (nar .char (57 : Int32))), (.int (nar .char (45 : Int32))), (.int (nar .char (95 : Int32))), (.int (nar .char (65 : Int32))), (.int (nar .char (98 : Int32))), (.int (nar .char (90 : Int32))), (.int (nar .char (122 : Int32))), (.int (nar .char (48 : Int32))), (.int (nar .char (57 : Int32))), (.int (nar .char (45 : Int32))), (.int (nar .char (95 : Int32))), (.int (nar .char (65 : Int32))), (.int (nar .char (98 : Int32))), (.int (nar .char (90 : Int32))), (.int (nar .char (122 : Int32))), (.int (nar .char (48 : Int32))), (.int (nar .char (57 : Int32))), (.int (nar .char (45 : Int32))), (.int (nar .char (95 : Int32))), (.int (nar .char (65 : Int32))), (.int (nar .char (98 : Int32))), (.int (nar .char (90 : Int32))), (.int (nar .char (122 : Int32))), (.int (nar .char (48 : Int32))), (.int (nar .char (57 : Int32))), (.int (nar .char (45 : Int32))), (.int (nar .char (95 : Int32))), (.int (nar .char (65 : Int32))), (.int (nar .char (98 : Int32))), (.int (nar .char (90 : Int32))), (.int (nar .char (122 : Int32))), (.int (nar .char (48 : Int32))), (.int 0), (.int 0), (.int 0), (.int 0), (.int 0), (.int 0), (.int 0), (.int 0), (.int 0), (.int 0), (.int 0), (.int 0)] (.int 0) := Arv.set Ar393 q393 S393 Nn393 Ha393 G393 (fits_nar_char _) W393 52 rfl (Nat.le_of_ble_eq_true rfl)
    have c394 : SS p e below S0 (T393.setTop (mkF m 731 #[vi p0, vi pk, vr uk, vr b21, .unset, .unset, .unset, .unset] [(.ref b225)])) := c392.trans (st393 _ (Steps.refl _))
    have N393 := Fr.snoc X393 N390 (Nat.le_trans Z0 ge228)
    have z393 : n0 ≤ h393.size := Nat.le_trans z390 (Keep.of_wr W393).1
    have K393 := K390.wr W393 (Or.inr ge228)
    have c395 : SS p e below S0 (T393.setTop (mkF m 736 #[vi p0, vi pk, vr uk, vr b21, .unset, .unset, .unset, .unset] [(.int 57), (.int 53), (.ref b225), (.ref b225)])) := c394.trans (by
      show SS p e below (T393.setTop (mkF m 731 #[vi p0, vi pk, vr uk, vr b21, .unset, .unset, .unset, .unset] [(.ref b225)])) _
      refine XS.dup X393.here hx rfl (hb hby at_731) rfl rfl ?_
      refine XS.bipush X393.here hx rfl (hb hby at_732) ?_
      refine XS.bipush X393.here hx rfl (hb hby at_734) ?_
      exact Steps.refl _)
    obtain ⟨cl396, Ar396, q396, S396, Nn396, Ha396, G396⟩ := id V393
    obtain ⟨T396, h396, X396, e396, W396, st396⟩ := stC X393 hx hZ e393 Ar396 (j := (53 : Int32)) (inb_of S396 ⟨by decide, by decide⟩) (g := (mkF m 736 #[vi p0, vi pk, vr uk, vr b21, .unset, .unset, .unset, .unset] [(.int 57), (.int 53), (.ref b225), (.ref b225)])) rfl rfl (hb hby at_736)
    have V396 : Arv Z h396 b225 k225 .char (65 : Int32) [(.int (nar .char (65 : Int32))), (.int (nar .char (98 : Int32))), (.int (nar .char (90 : Int32))), (.int (nar .char (122 : Int32))), (.int (nar .char (48 : Int32))), (.int (nar .char (57 : Int32))), (.int (nar .char (45 : Int32))), (.int (nar .char (95 : Int32))), (.int (nar .char (65 : Int32))), (.int (nar .char (98 : Int32))), (.int (nar .char (90 : Int32))), (.int (nar .char (122 : Int32))), (.int (nar .char (48 : Int32))), (.int (nar .char (57 : Int32))), (.int (nar .char (45 : Int32))), (.int (nar .char (95 : Int32))), (.int (nar .char (65 : Int32))), (.int (nar .char (98 : Int32))), (.int (nar .char (90 : Int32))), (.int (nar .char (122 : Int32))), (.int (nar .char (48 : Int32))), (.int (nar .char (57 : Int32))), (.int (nar .char (45 : Int32))), (.int (nar .char (95 : Int32))), (.int (nar .char (65 : Int32))), (.int (nar .char (98 : Int32))), (.int (nar .char (90 : Int32))), (.int (nar .char (122 : Int32))), (.int (nar .char (48 : Int32))), (.int (nar .char (57 : Int32))), (.int (nar .char (45 : Int32))), (.int (nar .char (95 : Int32))), (.int (nar .char (65 : Int32))), (.int (nar .char (98 : Int32))), (.int (nar .char (90 : Int32))), (.int (nar .char (122 : Int32))), (.int (nar .char (48 : Int32))), (.int (nar .char (57 : Int32))), (.int (nar .char (45 : Int32))), (.int (nar .char (95 : Int32))), (.int (nar .char (65 : Int32))), (.int (nar .char (98 : Int32))), (.int (nar .char (90 : Int32))), (.int (nar .char (122 : Int32))), (.int (nar .char (48 : Int32))), (.int (nar .char (57 : Int32))), (.int (nar .char (45 : Int32))), (.int (nar .char (95 : Int32))), (.int (nar .char (65 : Int32))), (.int (nar .char (98 : Int32))), (.int (nar .char (90 : Int32))), (.int (nar .char (122 : Int32))), (.int (nar .char (48 : Int32))), (.int (nar .char (57 : Int32))), (.int 0), (.int 0), (.int 0), (.int 0), (.int 0), (.int 0), (.int 0), (.int 0), (.int 0), (.int 0), (.int 0)] (.int 0) := Arv.set Ar396 q396 S396 Nn396 Ha396 G396 (fits_nar_char _) W396 53 rfl (Nat.le_of_ble_eq_true rfl)
    have c397 : SS p e below S0 (T396.setTop (mkF m 737 #[vi p0, vi pk, vr uk, vr b21, .unset, .unset, .unset, .unset] [(.ref b225)])) := c395.trans (st396 _ (Steps.refl _))
    have N396 := Fr.snoc X396 N393 (Nat.le_trans Z0 ge228)
    have z396 : n0 ≤ h396.size := Nat.le_trans z393 (Keep.of_wr W396).1
    have K396 := K393.wr W396 (Or.inr ge228)
    have c398 : SS p e below S0 (T396.setTop (mkF m 742 #[vi p0, vi pk, vr uk, vr b21, .unset, .unset, .unset, .unset] [(.int 45), (.int 54), (.ref b225), (.ref b225)])) := c397.trans (by
      show SS p e below (T396.setTop (mkF m 737 #[vi p0, vi pk, vr uk, vr b21, .unset, .unset, .unset, .unset] [(.ref b225)])) _
      refine XS.dup X396.here hx rfl (hb hby at_737) rfl rfl ?_
      refine XS.bipush X396.here hx rfl (hb hby at_738) ?_
      refine XS.bipush X396.here hx rfl (hb hby at_740) ?_
      exact Steps.refl _)
    obtain ⟨cl399, Ar399, q399, S399, Nn399, Ha399, G399⟩ := id V396
    obtain ⟨T399, h399, X399, e399, W399, st399⟩ := stC X396 hx hZ e396 Ar399 (j := (54 : Int32)) (inb_of S399 ⟨by decide, by decide⟩) (g := (mkF m 742 #[vi p0, vi pk, vr uk, vr b21, .unset, .unset, .unset, .unset] [(.int 45), (.int 54), (.ref b225), (.ref b225)])) rfl rfl (hb hby at_742)
    have V399 : Arv Z h399 b225 k225 .char (65 : Int32) [(.int (nar .char (65 : Int32))), (.int (nar .char (98 : Int32))), (.int (nar .char (90 : Int32))), (.int (nar .char (122 : Int32))), (.int (nar .char (48 : Int32))), (.int (nar .char (57 : Int32))), (.int (nar .char (45 : Int32))), (.int (nar .char (95 : Int32))), (.int (nar .char (65 : Int32))), (.int (nar .char (98 : Int32))), (.int (nar .char (90 : Int32))), (.int (nar .char (122 : Int32))), (.int (nar .char (48 : Int32))), (.int (nar .char (57 : Int32))), (.int (nar .char (45 : Int32))), (.int (nar .char (95 : Int32))), (.int (nar .char (65 : Int32))), (.int (nar .char (98 : Int32))), (.int (nar .char (90 : Int32))), (.int (nar .char (122 : Int32))), (.int (nar .char (48 : Int32))), (.int (nar .char (57 : Int32))), (.int (nar .char (45 : Int32))), (.int (nar .char (95 : Int32))), (.int (nar .char (65 : Int32))), (.int (nar .char (98 : Int32))), (.int (nar .char (90 : Int32))), (.int (nar .char (122 : Int32))), (.int (nar .char (48 : Int32))), (.int (nar .char (57 : Int32))), (.int (nar .char (45 : Int32))), (.int (nar .char (95 : Int32))), (.int (nar .char (65 : Int32))), (.int (nar .char (98 : Int32))), (.int (nar .char (90 : Int32))), (.int (nar .char (122 : Int32))), (.int (nar .char (48 : Int32))), (.int (nar .char (57 : Int32))), (.int (nar .char (45 : Int32))), (.int (nar .char (95 : Int32))), (.int (nar .char (65 : Int32))), (.int (nar .char (98 : Int32))), (.int (nar .char (90 : Int32))), (.int (nar .char (122 : Int32))), (.int (nar .char (48 : Int32))), (.int (nar .char (57 : Int32))), (.int (nar .char (45 : Int32))), (.int (nar .char (95 : Int32))), (.int (nar .char (65 : Int32))), (.int (nar .char (98 : Int32))), (.int (nar .char (90 : Int32))), (.int (nar .char (122 : Int32))), (.int (nar .char (48 : Int32))), (.int (nar .char (57 : Int32))), (.int (nar .char (45 : Int32))), (.int 0), (.int 0), (.int 0), (.int 0), (.int 0), (.int 0), (.int 0), (.int 0), (.int 0), (.int 0)] (.int 0) := Arv.set Ar399 q399 S399 Nn399 Ha399 G399 (fits_nar_char _) W399 54 rfl (Nat.le_of_ble_eq_true rfl)
    have c400 : SS p e below S0 (T399.setTop (mkF m 743 #[vi p0, vi pk, vr uk, vr b21, .unset, .unset, .unset, .unset] [(.ref b225)])) := c398.trans (st399 _ (Steps.refl _))
    have N399 := Fr.snoc X399 N396 (Nat.le_trans Z0 ge228)
    have z399 : n0 ≤ h399.size := Nat.le_trans z396 (Keep.of_wr W399).1
    have K399 := K396.wr W399 (Or.inr ge228)
    have c401 : SS p e below S0 (T399.setTop (mkF m 748 #[vi p0, vi pk, vr uk, vr b21, .unset, .unset, .unset, .unset] [(.int 95), (.int 55), (.ref b225), (.ref b225)])) := c400.trans (by
      show SS p e below (T399.setTop (mkF m 743 #[vi p0, vi pk, vr uk, vr b21, .unset, .unset, .unset, .unset] [(.ref b225)])) _
      refine XS.dup X399.here hx rfl (hb hby at_743) rfl rfl ?_
      refine XS.bipush X399.here hx rfl (hb hby at_744) ?_
      refine XS.bipush X399.here hx rfl (hb hby at_746) ?_
      exact Steps.refl _)
    obtain ⟨cl402, Ar402, q402, S402, Nn402, Ha402, G402⟩ := id V399
    obtain ⟨T402, h402, X402, e402, W402, st402⟩ := stC X399 hx hZ e399 Ar402 (j := (55 : Int32)) (inb_of S402 ⟨by decide, by decide⟩) (g := (mkF m 748 #[vi p0, vi pk, vr uk, vr b21, .unset, .unset, .unset, .unset] [(.int 95), (.int 55), (.ref b225), (.ref b225)])) rfl rfl (hb hby at_748)
    have V402 : Arv Z h402 b225 k225 .char (65 : Int32) [(.int (nar .char (65 : Int32))), (.int (nar .char (98 : Int32))), (.int (nar .char (90 : Int32))), (.int (nar .char (122 : Int32))), (.int (nar .char (48 : Int32))), (.int (nar .char (57 : Int32))), (.int (nar .char (45 : Int32))), (.int (nar .char (95 : Int32))), (.int (nar .char (65 : Int32))), (.int (nar .char (98 : Int32))), (.int (nar .char (90 : Int32))), (.int (nar .char (122 : Int32))), (.int (nar .char (48 : Int32))), (.int (nar .char (57 : Int32))), (.int (nar .char (45 : Int32))), (.int (nar .char (95 : Int32))), (.int (nar .char (65 : Int32))), (.int (nar .char (98 : Int32))), (.int (nar .char (90 : Int32))), (.int (nar .char (122 : Int32))), (.int (nar .char (48 : Int32))), (.int (nar .char (57 : Int32))), (.int (nar .char (45 : Int32))), (.int (nar .char (95 : Int32))), (.int (nar .char (65 : Int32))), (.int (nar .char (98 : Int32))), (.int (nar .char (90 : Int32))), (.int (nar .char (122 : Int32))), (.int (nar .char (48 : Int32))), (.int (nar .char (57 : Int32))), (.int (nar .char (45 : Int32))), (.int (nar .char (95 : Int32))), (.int (nar .char (65 : Int32))), (.int (nar .char (98 : Int32))), (.int (nar .char (90 : Int32))), (.int (nar .char (122 : Int32))), (.int (nar .char (48 : Int32))), (.int (nar .char (57 : Int32))), (.int (nar .char (45 : Int32))), (.int (nar .char (95 : Int32))), (.int (nar .char (65 : Int32))), (.int (nar .char (98 : Int32))), (.int (nar .char (90 : Int32))), (.int (nar .char (122 : Int32))), (.int (nar .char (48 : Int32))), (.int (nar .char (57 : Int32))), (.int (nar .char (45 : Int32))), (.int (nar .char (95 : Int32))), (.int (nar .char (65 : Int32))), (.int (nar .char (98 : Int32))), (.int (nar .char (90 : Int32))), (.int (nar .char (122 : Int32))), (.int (nar .char (48 : Int32))), (.int (nar .char (57 : Int32))), (.int (nar .char (45 : Int32))), (.int (nar .char (95 : Int32))), (.int 0), (.int 0), (.int 0), (.int 0), (.int 0), (.int 0), (.int 0), (.int 0), (.int 0)] (.int 0) := Arv.set Ar402 q402 S402 Nn402 Ha402 G402 (fits_nar_char _) W402 55 rfl (Nat.le_of_ble_eq_true rfl)
    have c403 : SS p e below S0 (T402.setTop (mkF m 749 #[vi p0, vi pk, vr uk, vr b21, .unset, .unset, .unset, .unset] [(.ref b225)])) := c401.trans (st402 _ (Steps.refl _))
    have N402 := Fr.snoc X402 N399 (Nat.le_trans Z0 ge228)
    have z402 : n0 ≤ h402.size := Nat.le_trans z399 (Keep.of_wr W402).1
    have K402 := K399.wr W402 (Or.inr ge228)
    exact ⟨T402, _, _, N402, X402, e402, K402, z402, ((((((((O354.wr W381 (Nat.le_trans Z0 ge228)).wr W384 (Nat.le_trans Z0 ge228)).wr W387 (Nat.le_trans Z0 ge228)).wr W390 (Nat.le_trans Z0 ge228)).wr W393 (Nat.le_trans Z0 ge228)).wr W396 (Nat.le_trans Z0 ge228)).wr W399 (Nat.le_trans Z0 ge228)).wr W402 (Nat.le_trans Z0 ge228)), ((((((((V354_b21.other W381 ne227).other W384 ne227).other W387 ne227).other W390 ne227).other W393 ne227).other W396 ne227).other W399 ne227).other W402 ne227), V402, c403⟩
  obtain ⟨T404, h404, l404, N404, X404, e404, K404, z404, O404, V404_b21, V404_b225, c404⟩ : ∃ (T : State) (h : Heap) (locs : List Loc), Fr n0 locs ∧ Stand p l e room_1 s m #[(.int p0)] below meth c T locs 2 129 ∧ T.heap = h ∧ Keep h0 h [] ∧ n0 ≤ h.size ∧ Old Z n0 h ∧ Arv Z h b21 k21 .char (64 : Int32) [(.int (nar .char (65 : Int32))), (.int (nar .char (98 : Int32))), (.int (nar .char (90 : Int32))), (.int (nar .char (122 : Int32))), (.int (nar .char (48 : Int32))), (.int (nar .char (57 : Int32))), (.int (nar .char (45 : Int32))), (.int (nar .char (95 : Int32))), (.int (nar .char (65 : Int32))), (.int (nar .char (98 : Int32))), (.int (nar .char (90 : Int32))), (.int (nar .char (122 : Int32))), (.int (nar .char (48 : Int32))), (.int (nar .char (57 : Int32))), (.int (nar .char (45 : Int32))), (.int (nar .char (95 : Int32))), (.int (nar .char (65 : Int32))), (.int (nar .char (98 : Int32))), (.int (nar .char (90 : Int32))), (.int (nar .char (122 : Int32))), (.int (nar .char (48 : Int32))), (.int (nar .char (57 : Int32))), (.int (nar .char (45 : Int32))), (.int (nar .char (95 : Int32))), (.int (nar .char (65 : Int32))), (.int (nar .char (98 : Int32))), (.int (nar .char (90 : Int32))), (.int (nar .char (122 : Int32))), (.int (nar .char (48 : Int32))), (.int (nar .char (57 : Int32))), (.int (nar .char (45 : Int32))), (.int (nar .char (95 : Int32))), (.int (nar .char (65 : Int32))), (.int (nar .char (98 : Int32))), (.int (nar .char (90 : Int32))), (.int (nar .char (122 : Int32))), (.int (nar .char (48 : Int32))), (.int (nar .char (57 : Int32))), (.int (nar .char (45 : Int32))), (.int (nar .char (95 : Int32))), (.int (nar .char (65 : Int32))), (.int (nar .char (98 : Int32))), (.int (nar .char (90 : Int32))), (.int (nar .char (122 : Int32))), (.int (nar .char (48 : Int32))), (.int (nar .char (57 : Int32))), (.int (nar .char (45 : Int32))), (.int (nar .char (95 : Int32))), (.int (nar .char (65 : Int32))), (.int (nar .char (98 : Int32))), (.int (nar .char (90 : Int32))), (.int (nar .char (122 : Int32))), (.int (nar .char (48 : Int32))), (.int (nar .char (57 : Int32))), (.int (nar .char (45 : Int32))), (.int (nar .char (95 : Int32))), (.int (nar .char (65 : Int32))), (.int (nar .char (98 : Int32))), (.int (nar .char (90 : Int32))), (.int (nar .char (122 : Int32))), (.int (nar .char (48 : Int32))), (.int (nar .char (57 : Int32))), (.int (nar .char (45 : Int32))), (.int (nar .char (95 : Int32)))] (.int 0) ∧ Arv Z h b225 k225 .char (65 : Int32) [(.int (nar .char (65 : Int32))), (.int (nar .char (98 : Int32))), (.int (nar .char (90 : Int32))), (.int (nar .char (122 : Int32))), (.int (nar .char (48 : Int32))), (.int (nar .char (57 : Int32))), (.int (nar .char (45 : Int32))), (.int (nar .char (95 : Int32))), (.int (nar .char (65 : Int32))), (.int (nar .char (98 : Int32))), (.int (nar .char (90 : Int32))), (.int (nar .char (122 : Int32))), (.int (nar .char (48 : Int32))), (.int (nar .char (57 : Int32))), (.int (nar .char (45 : Int32))), (.int (nar .char (95 : Int32))), (.int (nar .char (65 : Int32))), (.int (nar .char (98 : Int32))), (.int (nar .char (90 : Int32))), (.int (nar .char (122 : Int32))), (.int (nar .char (48 : Int32))), (.int (nar .char (57 : Int32))), (.int (nar .char (45 : Int32))), (.int (nar .char (95 : Int32))), (.int (nar .char (65 : Int32))), (.int (nar .char (98 : Int32))), (.int (nar .char (90 : Int32))), (.int (nar .char (122 : Int32))), (.int (nar .char (48 : Int32))), (.int (nar .char (57 : Int32))), (.int (nar .char (45 : Int32))), (.int (nar .char (95 : Int32))), (.int (nar .char (65 : Int32))), (.int (nar .char (98 : Int32))), (.int (nar .char (90 : Int32))), (.int (nar .char (122 : Int32))), (.int (nar .char (48 : Int32))), (.int (nar .char (57 : Int32))), (.int (nar .char (45 : Int32))), (.int (nar .char (95 : Int32))), (.int (nar .char (65 : Int32))), (.int (nar .char (98 : Int32))), (.int (nar .char (90 : Int32))), (.int (nar .char (122 : Int32))), (.int (nar .char (48 : Int32))), (.int (nar .char (57 : Int32))), (.int (nar .char (45 : Int32))), (.int (nar .char (95 : Int32))), (.int (nar .char (65 : Int32))), (.int (nar .char (98 : Int32))), (.int (nar .char (90 : Int32))), (.int (nar .char (122 : Int32))), (.int (nar .char (48 : Int32))), (.int (nar .char (57 : Int32))), (.int (nar .char (45 : Int32))), (.int (nar .char (95 : Int32))), (.int (nar .char (65 : Int32))), (.int (nar .char (98 : Int32))), (.int (nar .char (90 : Int32))), (.int (nar .char (122 : Int32))), (.int (nar .char (48 : Int32))), (.int (nar .char (57 : Int32))), (.int (nar .char (45 : Int32))), (.int (nar .char (95 : Int32))), (.int 0)] (.int 0) ∧ SS p e below S0 (T.setTop (mkF m 797 #[vi p0, vi pk, vr uk, vr b21, .unset, .unset, .unset, .unset] [(.ref b225)])) := by
    have c405 : SS p e below S0 (T379.setTop (mkF m 754 #[vi p0, vi pk, vr uk, vr b21, .unset, .unset, .unset, .unset] [(.int 65), (.int 56), (.ref b225), (.ref b225)])) := c379.trans (by
      show SS p e below (T379.setTop (mkF m 749 #[vi p0, vi pk, vr uk, vr b21, .unset, .unset, .unset, .unset] [(.ref b225)])) _
      refine XS.dup X379.here hx rfl (hb hby at_749) rfl rfl ?_
      refine XS.bipush X379.here hx rfl (hb hby at_750) ?_
      refine XS.bipush X379.here hx rfl (hb hby at_752) ?_
      exact Steps.refl _)
    obtain ⟨cl406, Ar406, q406, S406, Nn406, Ha406, G406⟩ := id V379_b225
    obtain ⟨T406, h406, X406, e406, W406, st406⟩ := stC X379 hx hZ e379 Ar406 (j := (56 : Int32)) (inb_of S406 ⟨by decide, by decide⟩) (g := (mkF m 754 #[vi p0, vi pk, vr uk, vr b21, .unset, .unset, .unset, .unset] [(.int 65), (.int 56), (.ref b225), (.ref b225)])) rfl rfl (hb hby at_754)
    have V406 : Arv Z h406 b225 k225 .char (65 : Int32) [(.int (nar .char (65 : Int32))), (.int (nar .char (98 : Int32))), (.int (nar .char (90 : Int32))), (.int (nar .char (122 : Int32))), (.int (nar .char (48 : Int32))), (.int (nar .char (57 : Int32))), (.int (nar .char (45 : Int32))), (.int (nar .char (95 : Int32))), (.int (nar .char (65 : Int32))), (.int (nar .char (98 : Int32))), (.int (nar .char (90 : Int32))), (.int (nar .char (122 : Int32))), (.int (nar .char (48 : Int32))), (.int (nar .char (57 : Int32))), (.int (nar .char (45 : Int32))), (.int (nar .char (95 : Int32))), (.int (nar .char (65 : Int32))), (.int (nar .char (98 : Int32))), (.int (nar .char (90 : Int32))), (.int (nar .char (122 : Int32))), (.int (nar .char (48 : Int32))), (.int (nar .char (57 : Int32))), (.int (nar .char (45 : Int32))), (.int (nar .char (95 : Int32))), (.int (nar .char (65 : Int32))), (.int (nar .char (98 : Int32))), (.int (nar .char (90 : Int32))), (.int (nar .char (122 : Int32))), (.int (nar .char (48 : Int32))), (.int (nar .char (57 : Int32))), (.int (nar .char (45 : Int32))), (.int (nar .char (95 : Int32))), (.int (nar .char (65 : Int32))), (.int (nar .char (98 : Int32))), (.int (nar .char (90 : Int32))), (.int (nar .char (122 : Int32))), (.int (nar .char (48 : Int32))), (.int (nar .char (57 : Int32))), (.int (nar .char (45 : Int32))), (.int (nar .char (95 : Int32))), (.int (nar .char (65 : Int32))), (.int (nar .char (98 : Int32))), (.int (nar .char (90 : Int32))), (.int (nar .char (122 : Int32))), (.int (nar .char (48 : Int32))), (.int (nar .char (57 : Int32))), (.int (nar .char (45 : Int32))), (.int (nar .char (95 : Int32))), (.int (nar .char (65 : Int32))), (.int (nar .char (98 : Int32))), (.int (nar .char (90 : Int32))), (.int (nar .char (122 : Int32))), (.int (nar .char (48 : Int32))), (.int (nar .char (57 : Int32))), (.int (nar .char (45 : Int32))), (.int (nar .char (95 : Int32))), (.int (nar .char (65 : Int32))), (.int 0), (.int 0), (.int 0), (.int 0), (.int 0), (.int 0), (.int 0), (.int 0)] (.int 0) := Arv.set Ar406 q406 S406 Nn406 Ha406 G406 (fits_nar_char _) W406 56 rfl (Nat.le_of_ble_eq_true rfl)
    have c407 : SS p e below S0 (T406.setTop (mkF m 755 #[vi p0, vi pk, vr uk, vr b21, .unset, .unset, .unset, .unset] [(.ref b225)])) := c405.trans (st406 _ (Steps.refl _))
    have N406 := Fr.snoc X406 N379 (Nat.le_trans Z0 ge228)
    have z406 : n0 ≤ h406.size := Nat.le_trans z379 (Keep.of_wr W406).1
    have K406 := K379.wr W406 (Or.inr ge228)
    have c408 : SS p e below S0 (T406.setTop (mkF m 760 #[vi p0, vi pk, vr uk, vr b21, .unset, .unset, .unset, .unset] [(.int 98), (.int 57), (.ref b225), (.ref b225)])) := c407.trans (by
      show SS p e below (T406.setTop (mkF m 755 #[vi p0, vi pk, vr uk, vr b21, .unset, .unset, .unset, .unset] [(.ref b225)])) _
      refine XS.dup X406.here hx rfl (hb hby at_755) rfl rfl ?_
      refine XS.bipush X406.here hx rfl (hb hby at_756) ?_
      refine XS.bipush X406.here hx rfl (hb hby at_758) ?_
      exact Steps.refl _)
    obtain ⟨cl409, Ar409, q409, S409, Nn409, Ha409, G409⟩ := id V406
    obtain ⟨T409, h409, X409, e409, W409, st409⟩ := stC X406 hx hZ e406 Ar409 (j := (57 : Int32)) (inb_of S409 ⟨by decide, by decide⟩) (g := (mkF m 760 #[vi p0, vi pk, vr uk, vr b21, .unset, .unset, .unset, .unset] [(.int 98), (.int 57), (.ref b225), (.ref b225)])) rfl rfl (hb hby at_760)
    have V409 : Arv Z h409 b225 k225 .char (65 : Int32) [(.int (nar .char (65 : Int32))), (.int (nar .char (98 : Int32))), (.int (nar .char (90 : Int32))), (.int (nar .char (122 : Int32))), (.int (nar .char (48 : Int32))), (.int (nar .char (57 : Int32))), (.int (nar .char (45 : Int32))), (.int (nar .char (95 : Int32))), (.int (nar .char (65 : Int32))), (.int (nar .char (98 : Int32))), (.int (nar .char (90 : Int32))), (.int (nar .char (122 : Int32))), (.int (nar .char (48 : Int32))), (.int (nar .char (57 : Int32))), (.int (nar .char (45 : Int32))), (.int (nar .char (95 : Int32))), (.int (nar .char (65 : Int32))), (.int (nar .char (98 : Int32))), (.int (nar .char (90 : Int32))), (.int (nar .char (122 : Int32))), (.int (nar .char (48 : Int32))), (.int (nar .char (57 : Int32))), (.int (nar .char (45 : Int32))), (.int (nar .char (95 : Int32))), (.int (nar .char (65 : Int32))), (.int (nar .char (98 : Int32))), (.int (nar .char (90 : Int32))), (.int (nar .char (122 : Int32))), (.int (nar .char (48 : Int32))), (.int (nar .char (57 : Int32))), (.int (nar .char (45 : Int32))), (.int (nar .char (95 : Int32))), (.int (nar .char (65 : Int32))), (.int (nar .char (98 : Int32))), (.int (nar .char (90 : Int32))), (.int (nar .char (122 : Int32))), (.int (nar .char (48 : Int32))), (.int (nar .char (57 : Int32))), (.int (nar .char (45 : Int32))), (.int (nar .char (95 : Int32))), (.int (nar .char (65 : Int32))), (.int (nar .char (98 : Int32))), (.int (nar .char (90 : Int32))), (.int (nar .char (122 : Int32))), (.int (nar .char (48 : Int32))), (.int (nar .char (57 : Int32))), (.int (nar .char (45 : Int32))), (.int (nar .char (95 : Int32))), (.int (nar .char (65 : Int32))), (.int (nar .char (98 : Int32))), (.int (nar .char (90 : Int32))), (.int (nar .char (122 : Int32))), (.int (nar .char (48 : Int32))), (.int (nar .char (57 : Int32))), (.int (nar .char (45 : Int32))), (.int (nar .char (95 : Int32))), (.int (nar .char (65 : Int32))), (.int (nar .char (98 : Int32))), (.int 0), (.int 0), (.int 0), (.int 0), (.int 0), (.int 0), (.int 0)] (.int 0) := Arv.set Ar409 q409 S409 Nn409 Ha409 G409 (fits_nar_char _) W409 57 rfl (Nat.le_of_ble_eq_true rfl)
    have c410 : SS p e below S0 (T409.setTop (mkF m 761 #[vi p0, vi pk, vr uk, vr b21, .unset, .unset, .unset, .unset] [(.ref b225)])) := c408.trans (st409 _ (Steps.refl _))
    have N409 := Fr.snoc X409 N406 (Nat.le_trans Z0 ge228)
    have z409 : n0 ≤ h409.size := Nat.le_trans z406 (Keep.of_wr W409).1
    have K409 := K406.wr W409 (Or.inr ge228)
    have c411 : SS p e below S0 (T409.setTop (mkF m 766 #[vi p0, vi pk, vr uk, vr b21, .unset, .unset, .unset, .unset] [(.int 90), (.int 58), (.ref b225), (.ref b225)])) := c410.trans (by
      show SS p e below (T409.setTop (mkF m 761 #[vi p0, vi pk, vr uk, vr b21, .unset, .unset, .unset, .unset] [(.ref b225)])) _
      refine XS.dup X409.here hx rfl (hb hby at_761) rfl rfl ?_
      refine XS.bipush X409.here hx rfl (hb hby at_762) ?_
      refine XS.bipush X409.here hx rfl (hb hby at_764) ?_
      exact Steps.refl _)
    obtain ⟨cl412, Ar412, q412, S412, Nn412, Ha412, G412⟩ := id V409
    obtain ⟨T412, h412, X412, e412, W412, st412⟩ := stC X409 hx hZ e409 Ar412 (j := (58 : Int32)) (inb_of S412 ⟨by decide, by decide⟩) (g := (mkF m 766 #[vi p0, vi pk, vr uk, vr b21, .unset, .unset, .unset, .unset] [(.int 90), (.int 58), (.ref b225), (.ref b225)])) rfl rfl (hb hby at_766)
    have V412 : Arv Z h412 b225 k225 .char (65 : Int32) [(.int (nar .char (65 : Int32))), (.int (nar .char (98 : Int32))), (.int (nar .char (90 : Int32))), (.int (nar .char (122 : Int32))), (.int (nar .char (48 : Int32))), (.int (nar .char (57 : Int32))), (.int (nar .char (45 : Int32))), (.int (nar .char (95 : Int32))), (.int (nar .char (65 : Int32))), (.int (nar .char (98 : Int32))), (.int (nar .char (90 : Int32))), (.int (nar .char (122 : Int32))), (.int (nar .char (48 : Int32))), (.int (nar .char (57 : Int32))), (.int (nar .char (45 : Int32))), (.int (nar .char (95 : Int32))), (.int (nar .char (65 : Int32))), (.int (nar .char (98 : Int32))), (.int (nar .char (90 : Int32))), (.int (nar .char (122 : Int32))), (.int (nar .char (48 : Int32))), (.int (nar .char (57 : Int32))), (.int (nar .char (45 : Int32))), (.int (nar .char (95 : Int32))), (.int (nar .char (65 : Int32))), (.int (nar .char (98 : Int32))), (.int (nar .char (90 : Int32))), (.int (nar .char (122 : Int32))), (.int (nar .char (48 : Int32))), (.int (nar .char (57 : Int32))), (.int (nar .char (45 : Int32))), (.int (nar .char (95 : Int32))), (.int (nar .char (65 : Int32))), (.int (nar .char (98 : Int32))), (.int (nar .char (90 : Int32))), (.int (nar .char (122 : Int32))), (.int (nar .char (48 : Int32))), (.int (nar .char (57 : Int32))), (.int (nar .char (45 : Int32))), (.int (nar .char (95 : Int32))), (.int (nar .char (65 : Int32))), (.int (nar .char (98 : Int32))), (.int (nar .char (90 : Int32))), (.int (nar .char (122 : Int32))), (.int (nar .char (48 : Int32))), (.int (nar .char (57 : Int32))), (.int (nar .char (45 : Int32))), (.int (nar .char (95 : Int32))), (.int (nar .char (65 : Int32))), (.int (nar .char (98 : Int32))), (.int (nar .char (90 : Int32))), (.int (nar .char (122 : Int32))), (.int (nar .char (48 : Int32))), (.int (nar .char (57 : Int32))), (.int (nar .char (45 : Int32))), (.int (nar .char (95 : Int32))), (.int (nar .char (65 : Int32))), (.int (nar .char (98 : Int32))), (.int (nar .char (90 : Int32))), (.int 0), (.int 0), (.int 0), (.int 0), (.int 0), (.int 0)] (.int 0) := Arv.set Ar412 q412 S412 Nn412 Ha412 G412 (fits_nar_char _) W412 58 rfl (Nat.le_of_ble_eq_true rfl)
    have c413 : SS p e below S0 (T412.setTop (mkF m 767 #[vi p0, vi pk, vr uk, vr b21, .unset, .unset, .unset, .unset] [(.ref b225)])) := c411.trans (st412 _ (Steps.refl _))
    have N412 := Fr.snoc X412 N409 (Nat.le_trans Z0 ge228)
    have z412 : n0 ≤ h412.size := Nat.le_trans z409 (Keep.of_wr W412).1
    have K412 := K409.wr W412 (Or.inr ge228)
    have c414 : SS p e below S0 (T412.setTop (mkF m 772 #[vi p0, vi pk, vr uk, vr b21, .unset, .unset, .unset, .unset] [(.int 122), (.int 59), (.ref b225), (.ref b225)])) := c413.trans (by
      show SS p e below (T412.setTop (mkF m 767 #[vi p0, vi pk, vr uk, vr b21, .unset, .unset, .unset, .unset] [(.ref b225)])) _
      refine XS.dup X412.here hx rfl (hb hby at_767) rfl rfl ?_
      refine XS.bipush X412.here hx rfl (hb hby at_768) ?_
      refine XS.bipush X412.here hx rfl (hb hby at_770) ?_
      exact Steps.refl _)
    obtain ⟨cl415, Ar415, q415, S415, Nn415, Ha415, G415⟩ := id V412
    obtain ⟨T415, h415, X415, e415, W415, st415⟩ := stC X412 hx hZ e412 Ar415 (j := (59 : Int32)) (inb_of S415 ⟨by decide, by decide⟩) (g := (mkF m 772 #[vi p0, vi pk, vr uk, vr b21, .unset, .unset, .unset, .unset] [(.int 122), (.int 59), (.ref b225), (.ref b225)])) rfl rfl (hb hby at_772)
    have V415 : Arv Z h415 b225 k225 .char (65 : Int32) [(.int (nar .char (65 : Int32))), (.int (nar .char (98 : Int32))), (.int (nar .char (90 : Int32))), (.int (nar .char (122 : Int32))), (.int (nar .char (48 : Int32))), (.int (nar .char (57 : Int32))), (.int (nar .char (45 : Int32))), (.int (nar .char (95 : Int32))), (.int (nar .char (65 : Int32))), (.int (nar .char (98 : Int32))), (.int (nar .char (90 : Int32))), (.int (nar .char (122 : Int32))), (.int (nar .char (48 : Int32))), (.int (nar .char (57 : Int32))), (.int (nar .char (45 : Int32))), (.int (nar .char (95 : Int32))), (.int (nar .char (65 : Int32))), (.int (nar .char (98 : Int32))), (.int (nar .char (90 : Int32))), (.int (nar .char (122 : Int32))), (.int (nar .char (48 : Int32))), (.int (nar .char (57 : Int32))), (.int (nar .char (45 : Int32))), (.int (nar .char (95 : Int32))), (.int (nar .char (65 : Int32))), (.int (nar .char (98 : Int32))), (.int (nar .char (90 : Int32))), (.int (nar .char (122 : Int32))), (.int (nar .char (48 : Int32))), (.int (nar .char (57 : Int32))), (.int (nar .char (45 : Int32))), (.int (nar .char (95 : Int32))), (.int (nar .char (65 : Int32))), (.int (nar .char (98 : Int32))), (.int (nar .char (90 : Int32))), (.int (nar .char (122 : Int32))), (.int (nar .char (48 : Int32))), (.int (nar .char (57 : Int32))), (.int (nar .char (45 : Int32))), (.int (nar .char (95 : Int32))), (.int (nar .char (65 : Int32))), (.int (nar .char (98 : Int32))), (.int (nar .char (90 : Int32))), (.int (nar .char (122 : Int32))), (.int (nar .char (48 : Int32))), (.int (nar .char (57 : Int32))), (.int (nar .char (45 : Int32))), (.int (nar .char (95 : Int32))), (.int (nar .char (65 : Int32))), (.int (nar .char (98 : Int32))), (.int (nar .char (90 : Int32))), (.int (nar .char (122 : Int32))), (.int (nar .char (48 : Int32))), (.int (nar .char (57 : Int32))), (.int (nar .char (45 : Int32))), (.int (nar .char (95 : Int32))), (.int (nar .char (65 : Int32))), (.int (nar .char (98 : Int32))), (.int (nar .char (90 : Int32))), (.int (nar .char (122 : Int32))), (.int 0), (.int 0), (.int 0), (.int 0), (.int 0)] (.int 0) := Arv.set Ar415 q415 S415 Nn415 Ha415 G415 (fits_nar_char _) W415 59 rfl (Nat.le_of_ble_eq_true rfl)
    have c416 : SS p e below S0 (T415.setTop (mkF m 773 #[vi p0, vi pk, vr uk, vr b21, .unset, .unset, .unset, .unset] [(.ref b225)])) := c414.trans (st415 _ (Steps.refl _))
    have N415 := Fr.snoc X415 N412 (Nat.le_trans Z0 ge228)
    have z415 : n0 ≤ h415.size := Nat.le_trans z412 (Keep.of_wr W415).1
    have K415 := K412.wr W415 (Or.inr ge228)
    have c417 : SS p e below S0 (T415.setTop (mkF m 778 #[vi p0, vi pk, vr uk, vr b21, .unset, .unset, .unset, .unset] [(.int 48), (.int 60), (.ref b225), (.ref b225)])) := c416.trans (by
      show SS p e below (T415.setTop (mkF m 773 #[vi p0, vi pk, vr uk, vr b21, .unset, .unset, .unset, .unset] [(.ref b225)])) _
      refine XS.dup X415.here hx rfl (hb hby at_773) rfl rfl ?_
      refine XS.bipush X415.here hx rfl (hb hby at_774) ?_
      refine XS.bipush X415.here hx rfl (hb hby at_776) ?_
      exact Steps.refl _)
    obtain ⟨cl418, Ar418, q418, S418, Nn418, Ha418, G418⟩ := id V415
    obtain ⟨T418, h418, X418, e418, W418, st418⟩ := stC X415 hx hZ e415 Ar418 (j := (60 : Int32)) (inb_of S418 ⟨by decide, by decide⟩) (g := (mkF m 778 #[vi p0, vi pk, vr uk, vr b21, .unset, .unset, .unset, .unset] [(.int 48), (.int 60), (.ref b225), (.ref b225)])) rfl rfl (hb hby at_778)
    have V418 : Arv Z h418 b225 k225 .char (65 : Int32) [(.int (nar .char (65 : Int32))), (.int (nar .char (98 : Int32))), (.int (nar .char (90 : Int32))), (.int (nar .char (122 : Int32))), (.int (nar .char (48 : Int32))), (.int (nar .char (57 : Int32))), (.int (nar .char (45 : Int32))), (.int (nar .char (95 : Int32))), (.int (nar .char (65 : Int32))), (.int (nar .char (98 : Int32))), (.int (nar .char (90 : Int32))), (.int (nar .char (122 : Int32))), (.int (nar .char (48 : Int32))), (.int (nar .char (57 : Int32))), (.int (nar .char (45 : Int32))), (.int (nar .char (95 : Int32))), (.int (nar .char (65 : Int32))), (.int (nar .char (98 : Int32))), (.int (nar .char (90 : Int32))), (.int (nar .char (122 : Int32))), (.int (nar .char (48 : Int32))), (.int (nar .char (57 : Int32))), (.int (nar .char (45 : Int32))), (.int (nar .char (95 : Int32))), (.int (nar .char (65 : Int32))), (.int (nar .char (98 : Int32))), (.int (nar .char (90 : Int32))), (.int (nar .char (122 : Int32))), (.int (nar .char (48 : Int32))), (.int (nar .char (57 : Int32))), (.int (nar .char (45 : Int32))), (.int (nar .char (95 : Int32))), (.int (nar .char (65 : Int32))), (.int (nar .char (98 : Int32))), (.int (nar .char (90 : Int32))), (.int (nar .char (122 : Int32))), (.int (nar .char (48 : Int32))), (.int (nar .char (57 : Int32))), (.int (nar .char (45 : Int32))), (.int (nar .char (95 : Int32))), (.int (nar .char (65 : Int32))), (.int (nar .char (98 : Int32))), (.int (nar .char (90 : Int32))), (.int (nar .char (122 : Int32))), (.int (nar .char (48 : Int32))), (.int (nar .char (57 : Int32))), (.int (nar .char (45 : Int32))), (.int (nar .char (95 : Int32))), (.int (nar .char (65 : Int32))), (.int (nar .char (98 : Int32))), (.int (nar .char (90 : Int32))), (.int (nar .char (122 : Int32))), (.int (nar .char (48 : Int32))), (.int (nar .char (57 : Int32))), (.int (nar .char (45 : Int32))), (.int (nar .char (95 : Int32))), (.int (nar .char (65 : Int32))), (.int (nar .char (98 : Int32))), (.int (nar .char (90 : Int32))), (.int (nar .char (122 : Int32))), (.int (nar .char (48 : Int32))), (.int 0), (.int 0), (.int 0), (.int 0)] (.int 0) := Arv.set Ar418 q418 S418 Nn418 Ha418 G418 (fits_nar_char _) W418 60 rfl (Nat.le_of_ble_eq_true rfl)
    have c419 : SS p e below S0 (T418.setTop (mkF m 779 #[vi p0, vi pk, vr uk, vr b21, .unset, .unset, .unset, .unset] [(.ref b225)])) := c417.trans (st418 _ (Steps.refl _))
    have N418 := Fr.snoc X418 N415 (Nat.le_trans Z0 ge228)
    have z418 : n0 ≤ h418.size := Nat.le_trans z415 (Keep.of_wr W418).1
    have K418 := K415.wr W418 (Or.inr ge228)
    have c420 : SS p e below S0 (T418.setTop (mkF m 784 #[vi p0, vi pk, vr uk, vr b21, .unset, .unset, .unset, .unset] [(.int 57), (.int 61), (.ref b225), (.ref b225)])) := c419.trans (by
      show SS p e below (T418.setTop (mkF m 779 #[vi p0, vi pk, vr uk, vr b21, .unset, .unset, .unset, .unset] [(.ref b225)])) _
      refine XS.dup X418.here hx rfl (hb hby at_779) rfl rfl ?_
      refine XS.bipush X418.here hx rfl (hb hby at_780) ?_
      refine XS.bipush X418.here hx rfl (hb hby at_782) ?_
      exact Steps.refl _)
    obtain ⟨cl421, Ar421, q421, S421, Nn421, Ha421, G421⟩ := id V418
    obtain ⟨T421, h421, X421, e421, W421, st421⟩ := stC X418 hx hZ e418 Ar421 (j := (61 : Int32)) (inb_of S421 ⟨by decide, by decide⟩) (g := (mkF m 784 #[vi p0, vi pk, vr uk, vr b21, .unset, .unset, .unset, .unset] [(.int 57), (.int 61), (.ref b225), (.ref b225)])) rfl rfl (hb hby at_784)
    have V421 : Arv Z h421 b225 k225 .char (65 : Int32) [(.int (nar .char (65 : Int32))), (.int (nar .char (98 : Int32))), (.int (nar .char (90 : Int32))), (.int (nar .char (122 : Int32))), (.int (nar .char (48 : Int32))), (.int (nar .char (57 : Int32))), (.int (nar .char (45 : Int32))), (.int (nar .char (95 : Int32))), (.int (nar .char (65 : Int32))), (.int (nar .char (98 : Int32))), (.int (nar .char (90 : Int32))), (.int (nar .char (122 : Int32))), (.int (nar .char (48 : Int32))), (.int (nar .char (57 : Int32))), (.int (nar .char (45 : Int32))), (.int (nar .char (95 : Int32))), (.int (nar .char (65 : Int32))), (.int (nar .char (98 : Int32))), (.int (nar .char (90 : Int32))), (.int (nar .char (122 : Int32))), (.int (nar .char (48 : Int32))), (.int (nar .char (57 : Int32))), (.int (nar .char (45 : Int32))), (.int (nar .char (95 : Int32))), (.int (nar .char (65 : Int32))), (.int (nar .char (98 : Int32))), (.int (nar .char (90 : Int32))), (.int (nar .char (122 : Int32))), (.int (nar .char (48 : Int32))), (.int (nar .char (57 : Int32))), (.int (nar .char (45 : Int32))), (.int (nar .char (95 : Int32))), (.int (nar .char (65 : Int32))), (.int (nar .char (98 : Int32))), (.int (nar .char (90 : Int32))), (.int (nar .char (122 : Int32))), (.int (nar .char (48 : Int32))), (.int (nar .char (57 : Int32))), (.int (nar .char (45 : Int32))), (.int (nar .char (95 : Int32))), (.int (nar .char (65 : Int32))), (.int (nar .char (98 : Int32))), (.int (nar .char (90 : Int32))), (.int (nar .char (122 : Int32))), (.int (nar .char (48 : Int32))), (.int (nar .char (57 : Int32))), (.int (nar .char (45 : Int32))), (.int (nar .char (95 : Int32))), (.int (nar .char (65 : Int32))), (.int (nar .char (98 : Int32))), (.int (nar .char (90 : Int32))), (.int (nar .char (122 : Int32))), (.int (nar .char (48 : Int32))), (.int (nar .char (57 : Int32))), (.int (nar .char (45 : Int32))), (.int (nar .char (95 : Int32))), (.int (nar .char (65 : Int32))), (.int (nar .char (98 : Int32))), (.int (nar .char (90 : Int32))), (.int (nar .char (122 : Int32))), (.int (nar .char (48 : Int32))), (.int (nar .char (57 : Int32))), (.int 0), (.int 0), (.int 0)] (.int 0) := Arv.set Ar421 q421 S421 Nn421 Ha421 G421 (fits_nar_char _) W421 61 rfl (Nat.le_of_ble_eq_true rfl)
    have c422 : SS p e below S0 (T421.setTop (mkF m 785 #[vi p0, vi pk, vr uk, vr b21, .unset, .unset, .unset, .unset] [(.ref b225)])) := c420.trans (st421 _ (Steps.refl _))
    have N421 := Fr.snoc X421 N418 (Nat.le_trans Z0 ge228)
    have z421 : n0 ≤ h421.size := Nat.le_trans z418 (Keep.of_wr W421).1
    have K421 := K418.wr W421 (Or.inr ge228)
    have c423 : SS p e below S0 (T421.setTop (mkF m 790 #[vi p0, vi pk, vr uk, vr b21, .unset, .unset, .unset, .unset] [(.int 45), (.int 62), (.ref b225), (.ref b225)])) := c422.trans (by
      show SS p e below (T421.setTop (mkF m 785 #[vi p0, vi pk, vr uk, vr b21, .unset, .unset, .unset, .unset] [(.ref b225)])) _
      refine XS.dup X421.here hx rfl (hb hby at_785) rfl rfl ?_
      refine XS.bipush X421.here hx rfl (hb hby at_786) ?_
      refine XS.bipush X421.here hx rfl (hb hby at_788) ?_
      exact Steps.refl _)
    obtain ⟨cl424, Ar424, q424, S424, Nn424, Ha424, G424⟩ := id V421
    obtain ⟨T424, h424, X424, e424, W424, st424⟩ := stC X421 hx hZ e421 Ar424 (j := (62 : Int32)) (inb_of S424 ⟨by decide, by decide⟩) (g := (mkF m 790 #[vi p0, vi pk, vr uk, vr b21, .unset, .unset, .unset, .unset] [(.int 45), (.int 62), (.ref b225), (.ref b225)])) rfl rfl (hb hby at_790)
    have V424 : Arv Z h424 b225 k225 .char (65 : Int32) [(.int (nar .char (65 : Int32))), (.int (nar .char (98 : Int32))), (.int (nar .char (90 : Int32))), (.int (nar .char (122 : Int32))), (.int (nar .char (48 : Int32))), (.int (nar .char (57 : Int32))), (.int (nar .char (45 : Int32))), (.int (nar .char (95 : Int32))), (.int (nar .char (65 : Int32))), (.int (nar .char (98 : Int32))), (.int (nar .char (90 : Int32))), (.int (nar .char (122 : Int32))), (.int (nar .char (48 : Int32))), (.int (nar .char (57 : Int32))), (.int (nar .char (45 : Int32))), (.int (nar .char (95 : Int32))), (.int (nar .char (65 : Int32))), (.int (nar .char (98 : Int32))), (.int (nar .char (90 : Int32))), (.int (nar .char (122 : Int32))), (.int (nar .char (48 : Int32))), (.int (nar .char (57 : Int32))), (.int (nar .char (45 : Int32))), (.int (nar .char (95 : Int32))), (.int (nar .char (65 : Int32))), (.int (nar .char (98 : Int32))), (.int (nar .char (90 : Int32))), (.int (nar .char (122 : Int32))), (.int (nar .char (48 : Int32))), (.int (nar .char (57 : Int32))), (.int (nar .char (45 : Int32))), (.int (nar .char (95 : Int32))), (.int (nar .char (65 : Int32))), (.int (nar .char (98 : Int32))), (.int (nar .char (90 : Int32))), (.int (nar .char (122 : Int32))), (.int (nar .char (48 : Int32))), (.int (nar .char (57 : Int32))), (.int (nar .char (45 : Int32))), (.int (nar .char (95 : Int32))), (.int (nar .char (65 : Int32))), (.int (nar .char (98 : Int32))), (.int (nar .char (90 : Int32))), (.int (nar .char (122 : Int32))), (.int (nar .char (48 : Int32))), (.int (nar .char (57 : Int32))), (.int (nar .char (45 : Int32))), (.int (nar .char (95 : Int32))), (.int (nar .char (65 : Int32))), (.int (nar .char (98 : Int32))), (.int (nar .char (90 : Int32))), (.int (nar .char (122 : Int32))), (.int (nar .char (48 : Int32))), (.int (nar .char (57 : Int32))), (.int (nar .char (45 : Int32))), (.int (nar .char (95 : Int32))), (.int (nar .char (65 : Int32))), (.int (nar .char (98 : Int32))), (.int (nar .char (90 : Int32))), (.int (nar .char (122 : Int32))), (.int (nar .char (48 : Int32))), (.int (nar .char (57 : Int32))), (.int (nar .char (45 : Int32))), (.int 0), (.int 0)] (.int 0) := Arv.set Ar424 q424 S424 Nn424 Ha424 G424 (fits_nar_char _) W424 62 rfl (Nat.le_of_ble_eq_true rfl)
    have c425 : SS p e below S0 (T424.setTop (mkF m 791 #[vi p0, vi pk, vr uk, vr b21, .unset, .unset, .unset, .unset] [(.ref b225)])) := c423.trans (st424 _ (Steps.refl _))
    have N424 := Fr.snoc X424 N421 (Nat.le_trans Z0 ge228)
    have z424 : n0 ≤ h424.size := Nat.le_trans z421 (Keep.of_wr W424).1
    have K424 := K421.wr W424 (Or.inr ge228)
    have c426 : SS p e below S0 (T424.setTop (mkF m 796 #[vi p0, vi pk, vr uk, vr b21, .unset, .unset, .unset, .unset] [(.int 95), (.int 63), (.ref b225), (.ref b225)])) := c425.trans (by
      show SS p e below (T424.setTop (mkF m 791 #[vi p0, vi pk, vr uk, vr b21, .unset, .unset, .unset, .unset] [(.ref b225)])) _
      refine XS.dup X424.here hx rfl (hb hby at_791) rfl rfl ?_
      refine XS.bipush X424.here hx rfl (hb hby at_792) ?_
      refine XS.bipush X424.here hx rfl (hb hby at_794) ?_
      exact Steps.refl _)
    obtain ⟨cl427, Ar427, q427, S427, Nn427, Ha427, G427⟩ := id V424
    obtain ⟨T427, h427, X427, e427, W427, st427⟩ := stC X424 hx hZ e424 Ar427 (j := (63 : Int32)) (inb_of S427 ⟨by decide, by decide⟩) (g := (mkF m 796 #[vi p0, vi pk, vr uk, vr b21, .unset, .unset, .unset, .unset] [(.int 95), (.int 63), (.ref b225), (.ref b225)])) rfl rfl (hb hby at_796)
    have V427 : Arv Z h427 b225 k225 .char (65 : Int32) [(.int (nar .char (65 : Int32))), (.int (nar .char (98 : Int32))), (.int (nar .char (90 : Int32))), (.int (nar .char (122 : Int32))), (.int (nar .char (48 : Int32))), (.int (nar .char (57 : Int32))), (.int (nar .char (45 : Int32))), (.int (nar .char (95 : Int32))), (.int (nar .char (65 : Int32))), (.int (nar .char (98 : Int32))), (.int (nar .char (90 : Int32))), (.int (nar .char (122 : Int32))), (.int (nar .char (48 : Int32))), (.int (nar .char (57 : Int32))), (.int (nar .char (45 : Int32))), (.int (nar .char (95 : Int32))), (.int (nar .char (65 : Int32))), (.int (nar .char (98 : Int32))), (.int (nar .char (90 : Int32))), (.int (nar .char (122 : Int32))), (.int (nar .char (48 : Int32))), (.int (nar .char (57 : Int32))), (.int (nar .char (45 : Int32))), (.int (nar .char (95 : Int32))), (.int (nar .char (65 : Int32))), (.int (nar .char (98 : Int32))), (.int (nar .char (90 : Int32))), (.int (nar .char (122 : Int32))), (.int (nar .char (48 : Int32))), (.int (nar .char (57 : Int32))), (.int (nar .char (45 : Int32))), (.int (nar .char (95 : Int32))), (.int (nar .char (65 : Int32))), (.int (nar .char (98 : Int32))), (.int (nar .char (90 : Int32))), (.int (nar .char (122 : Int32))), (.int (nar .char (48 : Int32))), (.int (nar .char (57 : Int32))), (.int (nar .char (45 : Int32))), (.int (nar .char (95 : Int32))), (.int (nar .char (65 : Int32))), (.int (nar .char (98 : Int32))), (.int (nar .char (90 : Int32))), (.int (nar .char (122 : Int32))), (.int (nar .char (48 : Int32))), (.int (nar .char (57 : Int32))), (.int (nar .char (45 : Int32))), (.int (nar .char (95 : Int32))), (.int (nar .char (65 : Int32))), (.int (nar .char (98 : Int32))), (.int (nar .char (90 : Int32))), (.int (nar .char (122 : Int32))), (.int (nar .char (48 : Int32))), (.int (nar .char (57 : Int32))), (.int (nar .char (45 : Int32))), (.int (nar .char (95 : Int32))), (.int (nar .char (65 : Int32))), (.int (nar .char (98 : Int32))), (.int (nar .char (90 : Int32))), (.int (nar .char (122 : Int32))), (.int (nar .char (48 : Int32))), (.int (nar .char (57 : Int32))), (.int (nar .char (45 : Int32))), (.int (nar .char (95 : Int32))), (.int 0)] (.int 0) := Arv.set Ar427 q427 S427 Nn427 Ha427 G427 (fits_nar_char _) W427 63 rfl (Nat.le_of_ble_eq_true rfl)
    have c428 : SS p e below S0 (T427.setTop (mkF m 797 #[vi p0, vi pk, vr uk, vr b21, .unset, .unset, .unset, .unset] [(.ref b225)])) := c426.trans (st427 _ (Steps.refl _))
    have N427 := Fr.snoc X427 N424 (Nat.le_trans Z0 ge228)
    have z427 : n0 ≤ h427.size := Nat.le_trans z424 (Keep.of_wr W427).1
    have K427 := K424.wr W427 (Or.inr ge228)
    exact ⟨T427, _, _, N427, X427, e427, K427, z427, ((((((((O379.wr W406 (Nat.le_trans Z0 ge228)).wr W409 (Nat.le_trans Z0 ge228)).wr W412 (Nat.le_trans Z0 ge228)).wr W415 (Nat.le_trans Z0 ge228)).wr W418 (Nat.le_trans Z0 ge228)).wr W421 (Nat.le_trans Z0 ge228)).wr W424 (Nat.le_trans Z0 ge228)).wr W427 (Nat.le_trans Z0 ge228)), ((((((((V379_b21.other W406 ne227).other W409 ne227).other W412 ne227).other W415 ne227).other W418 ne227).other W421 ne227).other W424 ne227).other W427 ne227), V427, c428⟩
  obtain ⟨T429, h429, l429, N429, X429, e429, K429, z429, O429, V429_b21, V429_b225, c429⟩ : ∃ (T : State) (h : Heap) (locs : List Loc), Fr n0 locs ∧ Stand p l e room_1 s m #[(.int p0)] below meth c T locs 2 129 ∧ T.heap = h ∧ Keep h0 h [] ∧ n0 ≤ h.size ∧ Old Z n0 h ∧ Arv Z h b21 k21 .char (64 : Int32) [(.int (nar .char (65 : Int32))), (.int (nar .char (98 : Int32))), (.int (nar .char (90 : Int32))), (.int (nar .char (122 : Int32))), (.int (nar .char (48 : Int32))), (.int (nar .char (57 : Int32))), (.int (nar .char (45 : Int32))), (.int (nar .char (95 : Int32))), (.int (nar .char (65 : Int32))), (.int (nar .char (98 : Int32))), (.int (nar .char (90 : Int32))), (.int (nar .char (122 : Int32))), (.int (nar .char (48 : Int32))), (.int (nar .char (57 : Int32))), (.int (nar .char (45 : Int32))), (.int (nar .char (95 : Int32))), (.int (nar .char (65 : Int32))), (.int (nar .char (98 : Int32))), (.int (nar .char (90 : Int32))), (.int (nar .char (122 : Int32))), (.int (nar .char (48 : Int32))), (.int (nar .char (57 : Int32))), (.int (nar .char (45 : Int32))), (.int (nar .char (95 : Int32))), (.int (nar .char (65 : Int32))), (.int (nar .char (98 : Int32))), (.int (nar .char (90 : Int32))), (.int (nar .char (122 : Int32))), (.int (nar .char (48 : Int32))), (.int (nar .char (57 : Int32))), (.int (nar .char (45 : Int32))), (.int (nar .char (95 : Int32))), (.int (nar .char (65 : Int32))), (.int (nar .char (98 : Int32))), (.int (nar .char (90 : Int32))), (.int (nar .char (122 : Int32))), (.int (nar .char (48 : Int32))), (.int (nar .char (57 : Int32))), (.int (nar .char (45 : Int32))), (.int (nar .char (95 : Int32))), (.int (nar .char (65 : Int32))), (.int (nar .char (98 : Int32))), (.int (nar .char (90 : Int32))), (.int (nar .char (122 : Int32))), (.int (nar .char (48 : Int32))), (.int (nar .char (57 : Int32))), (.int (nar .char (45 : Int32))), (.int (nar .char (95 : Int32))), (.int (nar .char (65 : Int32))), (.int (nar .char (98 : Int32))), (.int (nar .char (90 : Int32))), (.int (nar .char (122 : Int32))), (.int (nar .char (48 : Int32))), (.int (nar .char (57 : Int32))), (.int (nar .char (45 : Int32))), (.int (nar .char (95 : Int32))), (.int (nar .char (65 : Int32))), (.int (nar .char (98 : Int32))), (.int (nar .char (90 : Int32))), (.int (nar .char (122 : Int32))), (.int (nar .char (48 : Int32))), (.int (nar .char (57 : Int32))), (.int (nar .char (45 : Int32))), (.int (nar .char (95 : Int32)))] (.int 0) ∧ Arv Z h b225 k225 .char (65 : Int32) [(.int (nar .char (65 : Int32))), (.int (nar .char (98 : Int32))), (.int (nar .char (90 : Int32))), (.int (nar .char (122 : Int32))), (.int (nar .char (48 : Int32))), (.int (nar .char (57 : Int32))), (.int (nar .char (45 : Int32))), (.int (nar .char (95 : Int32))), (.int (nar .char (65 : Int32))), (.int (nar .char (98 : Int32))), (.int (nar .char (90 : Int32))), (.int (nar .char (122 : Int32))), (.int (nar .char (48 : Int32))), (.int (nar .char (57 : Int32))), (.int (nar .char (45 : Int32))), (.int (nar .char (95 : Int32))), (.int (nar .char (65 : Int32))), (.int (nar .char (98 : Int32))), (.int (nar .char (90 : Int32))), (.int (nar .char (122 : Int32))), (.int (nar .char (48 : Int32))), (.int (nar .char (57 : Int32))), (.int (nar .char (45 : Int32))), (.int (nar .char (95 : Int32))), (.int (nar .char (65 : Int32))), (.int (nar .char (98 : Int32))), (.int (nar .char (90 : Int32))), (.int (nar .char (122 : Int32))), (.int (nar .char (48 : Int32))), (.int (nar .char (57 : Int32))), (.int (nar .char (45 : Int32))), (.int (nar .char (95 : Int32))), (.int (nar .char (65 : Int32))), (.int (nar .char (98 : Int32))), (.int (nar .char (90 : Int32))), (.int (nar .char (122 : Int32))), (.int (nar .char (48 : Int32))), (.int (nar .char (57 : Int32))), (.int (nar .char (45 : Int32))), (.int (nar .char (95 : Int32))), (.int (nar .char (65 : Int32))), (.int (nar .char (98 : Int32))), (.int (nar .char (90 : Int32))), (.int (nar .char (122 : Int32))), (.int (nar .char (48 : Int32))), (.int (nar .char (57 : Int32))), (.int (nar .char (45 : Int32))), (.int (nar .char (95 : Int32))), (.int (nar .char (65 : Int32))), (.int (nar .char (98 : Int32))), (.int (nar .char (90 : Int32))), (.int (nar .char (122 : Int32))), (.int (nar .char (48 : Int32))), (.int (nar .char (57 : Int32))), (.int (nar .char (45 : Int32))), (.int (nar .char (95 : Int32))), (.int (nar .char (65 : Int32))), (.int (nar .char (98 : Int32))), (.int (nar .char (90 : Int32))), (.int (nar .char (122 : Int32))), (.int (nar .char (48 : Int32))), (.int (nar .char (57 : Int32))), (.int (nar .char (45 : Int32))), (.int (nar .char (95 : Int32))), (.int (nar .char (113 : Int32)))] (.int 0) ∧ SS p e below S0 (T.setTop (mkF m 803 #[vi p0, vi pk, vr uk, vr b21, .unset, .unset, .unset, .unset] [(.ref b225)])) := by
    have c430 : SS p e below S0 (T404.setTop (mkF m 802 #[vi p0, vi pk, vr uk, vr b21, .unset, .unset, .unset, .unset] [(.int 113), (.int 64), (.ref b225), (.ref b225)])) := c404.trans (by
      show SS p e below (T404.setTop (mkF m 797 #[vi p0, vi pk, vr uk, vr b21, .unset, .unset, .unset, .unset] [(.ref b225)])) _
      refine XS.dup X404.here hx rfl (hb hby at_797) rfl rfl ?_
      refine XS.bipush X404.here hx rfl (hb hby at_798) ?_
      refine XS.bipush X404.here hx rfl (hb hby at_800) ?_
      exact Steps.refl _)
    obtain ⟨cl431, Ar431, q431, S431, Nn431, Ha431, G431⟩ := id V404_b225
    obtain ⟨T431, h431, X431, e431, W431, st431⟩ := stC X404 hx hZ e404 Ar431 (j := (64 : Int32)) (inb_of S431 ⟨by decide, by decide⟩) (g := (mkF m 802 #[vi p0, vi pk, vr uk, vr b21, .unset, .unset, .unset, .unset] [(.int 113), (.int 64), (.ref b225), (.ref b225)])) rfl rfl (hb hby at_802)
    have V431 : Arv Z h431 b225 k225 .char (65 : Int32) [(.int (nar .char (65 : Int32))), (.int (nar .char (98 : Int32))), (.int (nar .char (90 : Int32))), (.int (nar .char (122 : Int32))), (.int (nar .char (48 : Int32))), (.int (nar .char (57 : Int32))), (.int (nar .char (45 : Int32))), (.int (nar .char (95 : Int32))), (.int (nar .char (65 : Int32))), (.int (nar .char (98 : Int32))), (.int (nar .char (90 : Int32))), (.int (nar .char (122 : Int32))), (.int (nar .char (48 : Int32))), (.int (nar .char (57 : Int32))), (.int (nar .char (45 : Int32))), (.int (nar .char (95 : Int32))), (.int (nar .char (65 : Int32))), (.int (nar .char (98 : Int32))), (.int (nar .char (90 : Int32))), (.int (nar .char (122 : Int32))), (.int (nar .char (48 : Int32))), (.int (nar .char (57 : Int32))), (.int (nar .char (45 : Int32))), (.int (nar .char (95 : Int32))), (.int (nar .char (65 : Int32))), (.int (nar .char (98 : Int32))), (.int (nar .char (90 : Int32))), (.int (nar .char (122 : Int32))), (.int (nar .char (48 : Int32))), (.int (nar .char (57 : Int32))), (.int (nar .char (45 : Int32))), (.int (nar .char (95 : Int32))), (.int (nar .char (65 : Int32))), (.int (nar .char (98 : Int32))), (.int (nar .char (90 : Int32))), (.int (nar .char (122 : Int32))), (.int (nar .char (48 : Int32))), (.int (nar .char (57 : Int32))), (.int (nar .char (45 : Int32))), (.int (nar .char (95 : Int32))), (.int (nar .char (65 : Int32))), (.int (nar .char (98 : Int32))), (.int (nar .char (90 : Int32))), (.int (nar .char (122 : Int32))), (.int (nar .char (48 : Int32))), (.int (nar .char (57 : Int32))), (.int (nar .char (45 : Int32))), (.int (nar .char (95 : Int32))), (.int (nar .char (65 : Int32))), (.int (nar .char (98 : Int32))), (.int (nar .char (90 : Int32))), (.int (nar .char (122 : Int32))), (.int (nar .char (48 : Int32))), (.int (nar .char (57 : Int32))), (.int (nar .char (45 : Int32))), (.int (nar .char (95 : Int32))), (.int (nar .char (65 : Int32))), (.int (nar .char (98 : Int32))), (.int (nar .char (90 : Int32))), (.int (nar .char (122 : Int32))), (.int (nar .char (48 : Int32))), (.int (nar .char (57 : Int32))), (.int (nar .char (45 : Int32))), (.int (nar .char (95 : Int32))), (.int (nar .char (113 : Int32)))] (.int 0) := Arv.set Ar431 q431 S431 Nn431 Ha431 G431 (fits_nar_char _) W431 64 rfl (Nat.le_of_ble_eq_true rfl)
    have c432 : SS p e below S0 (T431.setTop (mkF m 803 #[vi p0, vi pk, vr uk, vr b21, .unset, .unset, .unset, .unset] [(.ref b225)])) := c430.trans (st431 _ (Steps.refl _))
    have N431 := Fr.snoc X431 N404 (Nat.le_trans Z0 ge228)
    have z431 : n0 ≤ h431.size := Nat.le_trans z404 (Keep.of_wr W431).1
    have K431 := K404.wr W431 (Or.inr ge228)
    exact ⟨T431, _, _, N431, X431, e431, K431, z431, (O404.wr W431 (Nat.le_trans Z0 ge228)), (V404_b21.other W431 ne227), V431, c432⟩
  have c433 : SS p e below S0 (T429.setTop (mkF m 805 #[vi p0, vi pk, vr uk, vr b21, vr b225, .unset, .unset, .unset] [])) := c429.trans (by
    show SS p e below (T429.setTop (mkF m 803 #[vi p0, vi pk, vr uk, vr b21, .unset, .unset, .unset, .unset] [(.ref b225)])) _
    refine XS.astore X429.here hx rfl (hb hby at_803) rfl rfl (l' := #[vi p0, vi pk, vr uk, vr b21, vr b225, .unset, .unset, .unset]) rfl ?_
    exact Steps.refl _)
  obtain ⟨T434, h434, X434, e434, E434, A434, D434, -, st434⟩ := newO X429 hx hZ hown (ww hw 5 rfl) (ww hw 6 rfl) (ww hw 7 rfl) e429 (g := (mkF m 805 #[vi p0, vi pk, vr uk, vr b21, vr b225, .unset, .unset, .unset] [])) rfl (hb hby at_805) (by decide) (by decide)
  obtain ⟨b434, g434⟩ : ∃ z, z = h429.size := ⟨_, rfl⟩
  rw [← g434] at A434 D434 st434
  have c435 : SS p e below S0 (T434.setTop (mkF m 808 #[vi p0, vi pk, vr uk, vr b21, vr b225, .unset, .unset, .unset] [(.ref b434)])) := c433.trans (st434 _ (Steps.refl _))
  have z434 : n0 ≤ h434.size := Nat.le_trans z429 E434.1
  have K434 := K429.ext E434
  have lt_b434 : b434 < h434.size := A434.lt
  have F434_coder : Fld Z h434 b434 "java/lang/String" "coder" "B" (.int 0) := D434 (Or.inr (ww hw 31 rfl)) (ty := .byte) (by decide)
  have F434_value : Fld Z h434 b434 "java/lang/String" "value" "[B" .null := D434 (Or.inr (ww hw 33 rfl)) (ty := (.array .byte)) (by decide)
  have c436 : SS p e below S0 (T434.setTop (mkF m 810 #[vi p0, vi pk, vr uk, vr b21, vr b225, .unset, .unset, .unset] [(.ref b21), (.ref b434), (.ref b434)])) := c435.trans (by
    show SS p e below (T434.setTop (mkF m 808 #[vi p0, vi pk, vr uk, vr b21, vr b225, .unset, .unset, .unset] [(.ref b434)])) _
    refine XS.dup X434.here hx rfl (hb hby at_808) rfl rfl ?_
    refine XS.aloadN X434.here hx rfl (hb hby at_809) rfl rfl ?_
    exact Steps.refl _)
  have hp437 : ∀ c ∈ ([(nar .char (65 : Int32)), (nar .char (98 : Int32)), (nar .char (90 : Int32)), (nar .char (122 : Int32)), (nar .char (48 : Int32)), (nar .char (57 : Int32)), (nar .char (45 : Int32)), (nar .char (95 : Int32)), (nar .char (65 : Int32)), (nar .char (98 : Int32)), (nar .char (90 : Int32)), (nar .char (122 : Int32)), (nar .char (48 : Int32)), (nar .char (57 : Int32)), (nar .char (45 : Int32)), (nar .char (95 : Int32)), (nar .char (65 : Int32)), (nar .char (98 : Int32)), (nar .char (90 : Int32)), (nar .char (122 : Int32)), (nar .char (48 : Int32)), (nar .char (57 : Int32)), (nar .char (45 : Int32)), (nar .char (95 : Int32)), (nar .char (65 : Int32)), (nar .char (98 : Int32)), (nar .char (90 : Int32)), (nar .char (122 : Int32)), (nar .char (48 : Int32)), (nar .char (57 : Int32)), (nar .char (45 : Int32)), (nar .char (95 : Int32)), (nar .char (65 : Int32)), (nar .char (98 : Int32)), (nar .char (90 : Int32)), (nar .char (122 : Int32)), (nar .char (48 : Int32)), (nar .char (57 : Int32)), (nar .char (45 : Int32)), (nar .char (95 : Int32)), (nar .char (65 : Int32)), (nar .char (98 : Int32)), (nar .char (90 : Int32)), (nar .char (122 : Int32)), (nar .char (48 : Int32)), (nar .char (57 : Int32)), (nar .char (45 : Int32)), (nar .char (95 : Int32)), (nar .char (65 : Int32)), (nar .char (98 : Int32)), (nar .char (90 : Int32)), (nar .char (122 : Int32)), (nar .char (48 : Int32)), (nar .char (57 : Int32)), (nar .char (45 : Int32)), (nar .char (95 : Int32)), (nar .char (65 : Int32)), (nar .char (98 : Int32)), (nar .char (90 : Int32)), (nar .char (122 : Int32)), (nar .char (48 : Int32)), (nar .char (57 : Int32)), (nar .char (45 : Int32)), (nar .char (95 : Int32))] : List Int32), ¬ c < 0 ∧ ¬ (255 : Int32) < c := (own_alS (by decide) (own_alS (by decide) (own_alS (by decide) (own_alS (by decide) (own_alS (by decide) (own_alS (by decide) (own_alS (by decide) (own_alS (by decide) (own_alS (by decide) (own_alS (by decide) (own_alS (by decide) (own_alS (by decide) (own_alS (by decide) (own_alS (by decide) (own_alS (by decide) (own_alS (by decide) (own_alS (by decide) (own_alS (by decide) (own_alS (by decide) (own_alS (by decide) (own_alS (by decide) (own_alS (by decide) (own_alS (by decide) (own_alS (by decide) (own_alS (by decide) (own_alS (by decide) (own_alS (by decide) (own_alS (by decide) (own_alS (by decide) (own_alS (by decide) (own_alS (by decide) (own_alS (by decide) (own_alS (by decide) (own_alS (by decide) (own_alS (by decide) (own_alS (by decide) (own_alS (by decide) (own_alS (by decide) (own_alS (by decide) (own_alS (by decide) (own_alS (by decide) (own_alS (by decide) (own_alS (by decide) (own_alS (by decide) (own_alS (by decide) (own_alS (by decide) (own_alS (by decide) (own_alS (by decide) (own_alS (by decide) (own_alS (by decide) (own_alS (by decide) (own_alS (by decide) (own_alS (by decide) (own_alS (by decide) (own_alS (by decide) (own_alS (by decide) (own_alS (by decide) (own_alS (by decide) (own_alS (by decide) (own_alS (by decide) (own_alS (by decide) (own_alS (by decide) (own_alS (by decide) (own_alS (by decide) own_al0))))))))))))))))))))))))))))))))))))))))))))))))))))))))))))))))
  have hws437 : ∀ d ∈ StrChars.Road.words, d.before a0 Z = true := fun d hd => hw d (own_in_words d hd)
  obtain ⟨_, _, ⟨T438, L438, kk438, nn438⟩, -, X438, ⟨Lc438, hQ438, l438, y438, z438⟩, st438⟩ := X434.specialBack hx (y := (⟨"java/lang/String", "<init>", "([C)V"⟩ : MethodName)) rfl hown (mvT hZ (ww hw 8 rfl)) (mvT hZ (ww hw 9 rfl)) (mvT hZ (ww hw 10 rfl)) (by decide) (StrChars.Road.backV (W := 1) hZ hws437 (kI := 4) (ww hw 6 rfl) (cs := ([(nar .char (65 : Int32)), (nar .char (98 : Int32)), (nar .char (90 : Int32)), (nar .char (122 : Int32)), (nar .char (48 : Int32)), (nar .char (57 : Int32)), (nar .char (45 : Int32)), (nar .char (95 : Int32)), (nar .char (65 : Int32)), (nar .char (98 : Int32)), (nar .char (90 : Int32)), (nar .char (122 : Int32)), (nar .char (48 : Int32)), (nar .char (57 : Int32)), (nar .char (45 : Int32)), (nar .char (95 : Int32)), (nar .char (65 : Int32)), (nar .char (98 : Int32)), (nar .char (90 : Int32)), (nar .char (122 : Int32)), (nar .char (48 : Int32)), (nar .char (57 : Int32)), (nar .char (45 : Int32)), (nar .char (95 : Int32)), (nar .char (65 : Int32)), (nar .char (98 : Int32)), (nar .char (90 : Int32)), (nar .char (122 : Int32)), (nar .char (48 : Int32)), (nar .char (57 : Int32)), (nar .char (45 : Int32)), (nar .char (95 : Int32)), (nar .char (65 : Int32)), (nar .char (98 : Int32)), (nar .char (90 : Int32)), (nar .char (122 : Int32)), (nar .char (48 : Int32)), (nar .char (57 : Int32)), (nar .char (45 : Int32)), (nar .char (95 : Int32)), (nar .char (65 : Int32)), (nar .char (98 : Int32)), (nar .char (90 : Int32)), (nar .char (122 : Int32)), (nar .char (48 : Int32)), (nar .char (57 : Int32)), (nar .char (45 : Int32)), (nar .char (95 : Int32)), (nar .char (65 : Int32)), (nar .char (98 : Int32)), (nar .char (90 : Int32)), (nar .char (122 : Int32)), (nar .char (48 : Int32)), (nar .char (57 : Int32)), (nar .char (45 : Int32)), (nar .char (95 : Int32)), (nar .char (65 : Int32)), (nar .char (98 : Int32)), (nar .char (90 : Int32)), (nar .char (122 : Int32)), (nar .char (48 : Int32)), (nar .char (57 : Int32)), (nar .char (45 : Int32)), (nar .char (95 : Int32))] : List Int32)) (bs := (([(nar .char (65 : Int32)), (nar .char (98 : Int32)), (nar .char (90 : Int32)), (nar .char (122 : Int32)), (nar .char (48 : Int32)), (nar .char (57 : Int32)), (nar .char (45 : Int32)), (nar .char (95 : Int32)), (nar .char (65 : Int32)), (nar .char (98 : Int32)), (nar .char (90 : Int32)), (nar .char (122 : Int32)), (nar .char (48 : Int32)), (nar .char (57 : Int32)), (nar .char (45 : Int32)), (nar .char (95 : Int32)), (nar .char (65 : Int32)), (nar .char (98 : Int32)), (nar .char (90 : Int32)), (nar .char (122 : Int32)), (nar .char (48 : Int32)), (nar .char (57 : Int32)), (nar .char (45 : Int32)), (nar .char (95 : Int32)), (nar .char (65 : Int32)), (nar .char (98 : Int32)), (nar .char (90 : Int32)), (nar .char (122 : Int32)), (nar .char (48 : Int32)), (nar .char (57 : Int32)), (nar .char (45 : Int32)), (nar .char (95 : Int32)), (nar .char (65 : Int32)), (nar .char (98 : Int32)), (nar .char (90 : Int32)), (nar .char (122 : Int32)), (nar .char (48 : Int32)), (nar .char (57 : Int32)), (nar .char (45 : Int32)), (nar .char (95 : Int32)), (nar .char (65 : Int32)), (nar .char (98 : Int32)), (nar .char (90 : Int32)), (nar .char (122 : Int32)), (nar .char (48 : Int32)), (nar .char (57 : Int32)), (nar .char (45 : Int32)), (nar .char (95 : Int32)), (nar .char (65 : Int32)), (nar .char (98 : Int32)), (nar .char (90 : Int32)), (nar .char (122 : Int32)), (nar .char (48 : Int32)), (nar .char (57 : Int32)), (nar .char (45 : Int32)), (nar .char (95 : Int32)), (nar .char (65 : Int32)), (nar .char (98 : Int32)), (nar .char (90 : Int32)), (nar .char (122 : Int32)), (nar .char (48 : Int32)), (nar .char (57 : Int32)), (nar .char (45 : Int32)), (nar .char (95 : Int32))] : List Int32)).map (fun c => c.toInt8.toInt32)) (n := 64) (Nat.le_trans Z0 (Nat.le_trans K429.1 (Nat.le_of_eq g434.symm))) z434 A434 F434_value F434_coder (V429_b21.ext E434) (O2.ext (O429.ext E434).2) P5 rfl rfl (by decide) (by decide) hp437 rfl (by decide) (by decide)) (g := (mkF m 810 #[vi p0, vi pk, vr uk, vr b21, vr b225, .unset, .unset, .unset] [(.ref b21), (.ref b434), (.ref b434)])) rfl (by rw [hml]; rfl) (Steps.refl _) (a := b434) (argsL := [(.ref b21)]) (rest := [(.ref b434)]) (lenOf pd_oaCcV rfl) rfl (by show 2 * 0 + _ ≤ _; exact Nat.le_of_eq rfl) (hb hby at_810) (fun _ _ => ⟨rfl, e434, (by decide : 3 + 1 ≤ _), (by decide : 133 + 64 ≤ _)⟩)
  dsimp only [Pt.U, Pt.locs, Pt.cells, Pt.slots] at X438 l438 y438 z438 st438 hQ438
  subst l438 y438 z438
  obtain ⟨rfl, Nq438, Kq438, Ex438, Fc438, t438, kb438, ge438, gh438, ne438, Fv438, Va438⟩ := hQ438
  have c439 : SS p e below S0 (T438.setTop (mkF m 813 #[vi p0, vi pk, vr uk, vr b21, vr b225, .unset, .unset, .unset] [(.ref b434)])) := c436.trans (st438)
  have N438 := Fr.app N429 Nq438
  have z438 : n0 ≤ T438.heap.size := Nat.le_trans z434 Kq438.1
  have K438 := K434.trans Kq438 (allS (Or.inr (Nat.le_trans K429.1 (Nat.le_of_eq g434.symm))) all0)
  have lt_t438 : t438 < T438.heap.size := Va438.lt
  have hcd438 : StrChars.Road.CodA ([(nar .char (65 : Int32)), (nar .char (98 : Int32)), (nar .char (90 : Int32)), (nar .char (122 : Int32)), (nar .char (48 : Int32)), (nar .char (57 : Int32)), (nar .char (45 : Int32)), (nar .char (95 : Int32)), (nar .char (65 : Int32)), (nar .char (98 : Int32)), (nar .char (90 : Int32)), (nar .char (122 : Int32)), (nar .char (48 : Int32)), (nar .char (57 : Int32)), (nar .char (45 : Int32)), (nar .char (95 : Int32)), (nar .char (65 : Int32)), (nar .char (98 : Int32)), (nar .char (90 : Int32)), (nar .char (122 : Int32)), (nar .char (48 : Int32)), (nar .char (57 : Int32)), (nar .char (45 : Int32)), (nar .char (95 : Int32)), (nar .char (65 : Int32)), (nar .char (98 : Int32)), (nar .char (90 : Int32)), (nar .char (122 : Int32)), (nar .char (48 : Int32)), (nar .char (57 : Int32)), (nar .char (45 : Int32)), (nar .char (95 : Int32)), (nar .char (65 : Int32)), (nar .char (98 : Int32)), (nar .char (90 : Int32)), (nar .char (122 : Int32)), (nar .char (48 : Int32)), (nar .char (57 : Int32)), (nar .char (45 : Int32)), (nar .char (95 : Int32)), (nar .char (65 : Int32)), (nar .char (98 : Int32)), (nar .char (90 : Int32)), (nar .char (122 : Int32)), (nar .char (48 : Int32)), (nar .char (57 : Int32)), (nar .char (45 : Int32)), (nar .char (95 : Int32)), (nar .char (65 : Int32)), (nar .char (98 : Int32)), (nar .char (90 : Int32)), (nar .char (122 : Int32)), (nar .char (48 : Int32)), (nar .char (57 : Int32)), (nar .char (45 : Int32)), (nar .char (95 : Int32)), (nar .char (65 : Int32)), (nar .char (98 : Int32)), (nar .char (90 : Int32)), (nar .char (122 : Int32)), (nar .char (48 : Int32)), (nar .char (57 : Int32)), (nar .char (45 : Int32)), (nar .char (95 : Int32))] : List Int32) 0 (64 : Int32) (((([(nar .char (65 : Int32)), (nar .char (98 : Int32)), (nar .char (90 : Int32)), (nar .char (122 : Int32)), (nar .char (48 : Int32)), (nar .char (57 : Int32)), (nar .char (45 : Int32)), (nar .char (95 : Int32)), (nar .char (65 : Int32)), (nar .char (98 : Int32)), (nar .char (90 : Int32)), (nar .char (122 : Int32)), (nar .char (48 : Int32)), (nar .char (57 : Int32)), (nar .char (45 : Int32)), (nar .char (95 : Int32)), (nar .char (65 : Int32)), (nar .char (98 : Int32)), (nar .char (90 : Int32)), (nar .char (122 : Int32)), (nar .char (48 : Int32)), (nar .char (57 : Int32)), (nar .char (45 : Int32)), (nar .char (95 : Int32)), (nar .char (65 : Int32)), (nar .char (98 : Int32)), (nar .char (90 : Int32)), (nar .char (122 : Int32)), (nar .char (48 : Int32)), (nar .char (57 : Int32)), (nar .char (45 : Int32)), (nar .char (95 : Int32)), (nar .char (65 : Int32)), (nar .char (98 : Int32)), (nar .char (90 : Int32)), (nar .char (122 : Int32)), (nar .char (48 : Int32)), (nar .char (57 : Int32)), (nar .char (45 : Int32)), (nar .char (95 : Int32)), (nar .char (65 : Int32)), (nar .char (98 : Int32)), (nar .char (90 : Int32)), (nar .char (122 : Int32)), (nar .char (48 : Int32)), (nar .char (57 : Int32)), (nar .char (45 : Int32)), (nar .char (95 : Int32)), (nar .char (65 : Int32)), (nar .char (98 : Int32)), (nar .char (90 : Int32)), (nar .char (122 : Int32)), (nar .char (48 : Int32)), (nar .char (57 : Int32)), (nar .char (45 : Int32)), (nar .char (95 : Int32)), (nar .char (65 : Int32)), (nar .char (98 : Int32)), (nar .char (90 : Int32)), (nar .char (122 : Int32)), (nar .char (48 : Int32)), (nar .char (57 : Int32)), (nar .char (45 : Int32)), (nar .char (95 : Int32))] : List Int32)).map (fun c => c.toInt8.toInt32)).map Value.int) := StrChars.Road.codOf (n := 64) rfl (fun c hc => (hp437 c hc).2)
  obtain ⟨cs440, hcs440⟩ : ∃ z : List Int32, z = ([(nar .char (65 : Int32)), (nar .char (98 : Int32)), (nar .char (90 : Int32)), (nar .char (122 : Int32)), (nar .char (48 : Int32)), (nar .char (57 : Int32)), (nar .char (45 : Int32)), (nar .char (95 : Int32)), (nar .char (65 : Int32)), (nar .char (98 : Int32)), (nar .char (90 : Int32)), (nar .char (122 : Int32)), (nar .char (48 : Int32)), (nar .char (57 : Int32)), (nar .char (45 : Int32)), (nar .char (95 : Int32)), (nar .char (65 : Int32)), (nar .char (98 : Int32)), (nar .char (90 : Int32)), (nar .char (122 : Int32)), (nar .char (48 : Int32)), (nar .char (57 : Int32)), (nar .char (45 : Int32)), (nar .char (95 : Int32)), (nar .char (65 : Int32)), (nar .char (98 : Int32)), (nar .char (90 : Int32)), (nar .char (122 : Int32)), (nar .char (48 : Int32)), (nar .char (57 : Int32)), (nar .char (45 : Int32)), (nar .char (95 : Int32)), (nar .char (65 : Int32)), (nar .char (98 : Int32)), (nar .char (90 : Int32)), (nar .char (122 : Int32)), (nar .char (48 : Int32)), (nar .char (57 : Int32)), (nar .char (45 : Int32)), (nar .char (95 : Int32)), (nar .char (65 : Int32)), (nar .char (98 : Int32)), (nar .char (90 : Int32)), (nar .char (122 : Int32)), (nar .char (48 : Int32)), (nar .char (57 : Int32)), (nar .char (45 : Int32)), (nar .char (95 : Int32)), (nar .char (65 : Int32)), (nar .char (98 : Int32)), (nar .char (90 : Int32)), (nar .char (122 : Int32)), (nar .char (48 : Int32)), (nar .char (57 : Int32)), (nar .char (45 : Int32)), (nar .char (95 : Int32)), (nar .char (65 : Int32)), (nar .char (98 : Int32)), (nar .char (90 : Int32)), (nar .char (122 : Int32)), (nar .char (48 : Int32)), (nar .char (57 : Int32)), (nar .char (45 : Int32)), (nar .char (95 : Int32))] : List Int32) := ⟨_, rfl⟩
  have So440 : OStr Z T438.heap b434 t438 kb438 cs440 := by rw [hcs440]; exact ⟨Ex438, Fv438, Fc438, Va438, hp437, Nat.le_of_ble_eq_true rfl⟩
  have hl440 : cs440.length = 64 := by rw [hcs440]; rfl
  have ham440 : ∀ ch ∈ cs440, own_am ch := by rw [hcs440]; decide +kernel
  have c441 : SS p e below S0 (T438.setTop (mkF m 815 #[vi p0, vi pk, vr uk, vr b21, vr b225, vr b434, .unset, .unset] [])) := c439.trans (by
    show SS p e below (T438.setTop (mkF m 813 #[vi p0, vi pk, vr uk, vr b21, vr b225, .unset, .unset, .unset] [(.ref b434)])) _
    refine XS.astore X438.here hx rfl (hb hby at_813) rfl rfl (l' := #[vi p0, vi pk, vr uk, vr b21, vr b225, vr b434, .unset, .unset]) rfl ?_
    exact Steps.refl _)
  obtain ⟨T442, h442, X442, e442, E442, A442, D442, -, st442⟩ := newO X438 hx hZ hown (ww hw 5 rfl) (ww hw 6 rfl) (ww hw 7 rfl) rfl (g := (mkF m 815 #[vi p0, vi pk, vr uk, vr b21, vr b225, vr b434, .unset, .unset] [])) rfl (hb hby at_815) (by decide) (by decide)
  obtain ⟨b442, g442⟩ : ∃ z, z = T438.heap.size := ⟨_, rfl⟩
  rw [← g442] at A442 D442 st442
  have c443 : SS p e below S0 (T442.setTop (mkF m 818 #[vi p0, vi pk, vr uk, vr b21, vr b225, vr b434, .unset, .unset] [(.ref b442)])) := c441.trans (st442 _ (Steps.refl _))
  have z442 : n0 ≤ h442.size := Nat.le_trans z438 E442.1
  have K442 := K438.ext E442
  have lt_b442 : b442 < h442.size := A442.lt
  have F442_coder : Fld Z h442 b442 "java/lang/String" "coder" "B" (.int 0) := D442 (Or.inr (ww hw 31 rfl)) (ty := .byte) (by decide)
  have F442_value : Fld Z h442 b442 "java/lang/String" "value" "[B" .null := D442 (Or.inr (ww hw 33 rfl)) (ty := (.array .byte)) (by decide)
  have c444 : SS p e below S0 (T442.setTop (mkF m 821 #[vi p0, vi pk, vr uk, vr b21, vr b225, vr b434, .unset, .unset] [(.ref b225), (.ref b442), (.ref b442)])) := c443.trans (by
    show SS p e below (T442.setTop (mkF m 818 #[vi p0, vi pk, vr uk, vr b21, vr b225, vr b434, .unset, .unset] [(.ref b442)])) _
    refine XS.dup X442.here hx rfl (hb hby at_818) rfl rfl ?_
    refine XS.aload X442.here hx rfl (hb hby at_819) rfl rfl ?_
    exact Steps.refl _)
  have hp445 : ∀ c ∈ ([(nar .char (65 : Int32)), (nar .char (98 : Int32)), (nar .char (90 : Int32)), (nar .char (122 : Int32)), (nar .char (48 : Int32)), (nar .char (57 : Int32)), (nar .char (45 : Int32)), (nar .char (95 : Int32)), (nar .char (65 : Int32)), (nar .char (98 : Int32)), (nar .char (90 : Int32)), (nar .char (122 : Int32)), (nar .char (48 : Int32)), (nar .char (57 : Int32)), (nar .char (45 : Int32)), (nar .char (95 : Int32)), (nar .char (65 : Int32)), (nar .char (98 : Int32)), (nar .char (90 : Int32)), (nar .char (122 : Int32)), (nar .char (48 : Int32)), (nar .char (57 : Int32)), (nar .char (45 : Int32)), (nar .char (95 : Int32)), (nar .char (65 : Int32)), (nar .char (98 : Int32)), (nar .char (90 : Int32)), (nar .char (122 : Int32)), (nar .char (48 : Int32)), (nar .char (57 : Int32)), (nar .char (45 : Int32)), (nar .char (95 : Int32)), (nar .char (65 : Int32)), (nar .char (98 : Int32)), (nar .char (90 : Int32)), (nar .char (122 : Int32)), (nar .char (48 : Int32)), (nar .char (57 : Int32)), (nar .char (45 : Int32)), (nar .char (95 : Int32)), (nar .char (65 : Int32)), (nar .char (98 : Int32)), (nar .char (90 : Int32)), (nar .char (122 : Int32)), (nar .char (48 : Int32)), (nar .char (57 : Int32)), (nar .char (45 : Int32)), (nar .char (95 : Int32)), (nar .char (65 : Int32)), (nar .char (98 : Int32)), (nar .char (90 : Int32)), (nar .char (122 : Int32)), (nar .char (48 : Int32)), (nar .char (57 : Int32)), (nar .char (45 : Int32)), (nar .char (95 : Int32)), (nar .char (65 : Int32)), (nar .char (98 : Int32)), (nar .char (90 : Int32)), (nar .char (122 : Int32)), (nar .char (48 : Int32)), (nar .char (57 : Int32)), (nar .char (45 : Int32)), (nar .char (95 : Int32)), (nar .char (113 : Int32))] : List Int32), ¬ c < 0 ∧ ¬ (255 : Int32) < c := (own_alS (by decide) (own_alS (by decide) (own_alS (by decide) (own_alS (by decide) (own_alS (by decide) (own_alS (by decide) (own_alS (by decide) (own_alS (by decide) (own_alS (by decide) (own_alS (by decide) (own_alS (by decide) (own_alS (by decide) (own_alS (by decide) (own_alS (by decide) (own_alS (by decide) (own_alS (by decide) (own_alS (by decide) (own_alS (by decide) (own_alS (by decide) (own_alS (by decide) (own_alS (by decide) (own_alS (by decide) (own_alS (by decide) (own_alS (by decide) (own_alS (by decide) (own_alS (by decide) (own_alS (by decide) (own_alS (by decide) (own_alS (by decide) (own_alS (by decide) (own_alS (by decide) (own_alS (by decide) (own_alS (by decide) (own_alS (by decide) (own_alS (by decide) (own_alS (by decide) (own_alS (by decide) (own_alS (by decide) (own_alS (by decide) (own_alS (by decide) (own_alS (by decide) (own_alS (by decide) (own_alS (by decide) (own_alS (by decide) (own_alS (by decide) (own_alS (by decide) (own_alS (by decide) (own_alS (by decide) (own_alS (by decide) (own_alS (by decide) (own_alS (by decide) (own_alS (by decide) (own_alS (by decide) (own_alS (by decide) (own_alS (by decide) (own_alS (by decide) (own_alS (by decide) (own_alS (by decide) (own_alS (by decide) (own_alS (by decide) (own_alS (by decide) (own_alS (by decide) (own_alS (by decide) (own_alS (by decide) (own_alS (by decide) own_al0)))))))))))))))))))))))))))))))))))))))))))))))))))))))))))))))))
  have hws445 : ∀ d ∈ StrChars.Road.words, d.before a0 Z = true := fun d hd => hw d (own_in_words d hd)
  obtain ⟨_, _, ⟨T446, L446, kk446, nn446⟩, -, X446, ⟨Lc446, hQ446, l446, y446, z446⟩, st446⟩ := X442.specialBack hx (y := (⟨"java/lang/String", "<init>", "([C)V"⟩ : MethodName)) rfl hown (mvT hZ (ww hw 8 rfl)) (mvT hZ (ww hw 9 rfl)) (mvT hZ (ww hw 10 rfl)) (by decide) (StrChars.Road.backV (W := 1) hZ hws445 (kI := 4) (ww hw 6 rfl) (cs := ([(nar .char (65 : Int32)), (nar .char (98 : Int32)), (nar .char (90 : Int32)), (nar .char (122 : Int32)), (nar .char (48 : Int32)), (nar .char (57 : Int32)), (nar .char (45 : Int32)), (nar .char (95 : Int32)), (nar .char (65 : Int32)), (nar .char (98 : Int32)), (nar .char (90 : Int32)), (nar .char (122 : Int32)), (nar .char (48 : Int32)), (nar .char (57 : Int32)), (nar .char (45 : Int32)), (nar .char (95 : Int32)), (nar .char (65 : Int32)), (nar .char (98 : Int32)), (nar .char (90 : Int32)), (nar .char (122 : Int32)), (nar .char (48 : Int32)), (nar .char (57 : Int32)), (nar .char (45 : Int32)), (nar .char (95 : Int32)), (nar .char (65 : Int32)), (nar .char (98 : Int32)), (nar .char (90 : Int32)), (nar .char (122 : Int32)), (nar .char (48 : Int32)), (nar .char (57 : Int32)), (nar .char (45 : Int32)), (nar .char (95 : Int32)), (nar .char (65 : Int32)), (nar .char (98 : Int32)), (nar .char (90 : Int32)), (nar .char (122 : Int32)), (nar .char (48 : Int32)), (nar .char (57 : Int32)), (nar .char (45 : Int32)), (nar .char (95 : Int32)), (nar .char (65 : Int32)), (nar .char (98 : Int32)), (nar .char (90 : Int32)), (nar .char (122 : Int32)), (nar .char (48 : Int32)), (nar .char (57 : Int32)), (nar .char (45 : Int32)), (nar .char (95 : Int32)), (nar .char (65 : Int32)), (nar .char (98 : Int32)), (nar .char (90 : Int32)), (nar .char (122 : Int32)), (nar .char (48 : Int32)), (nar .char (57 : Int32)), (nar .char (45 : Int32)), (nar .char (95 : Int32)), (nar .char (65 : Int32)), (nar .char (98 : Int32)), (nar .char (90 : Int32)), (nar .char (122 : Int32)), (nar .char (48 : Int32)), (nar .char (57 : Int32)), (nar .char (45 : Int32)), (nar .char (95 : Int32)), (nar .char (113 : Int32))] : List Int32)) (bs := (([(nar .char (65 : Int32)), (nar .char (98 : Int32)), (nar .char (90 : Int32)), (nar .char (122 : Int32)), (nar .char (48 : Int32)), (nar .char (57 : Int32)), (nar .char (45 : Int32)), (nar .char (95 : Int32)), (nar .char (65 : Int32)), (nar .char (98 : Int32)), (nar .char (90 : Int32)), (nar .char (122 : Int32)), (nar .char (48 : Int32)), (nar .char (57 : Int32)), (nar .char (45 : Int32)), (nar .char (95 : Int32)), (nar .char (65 : Int32)), (nar .char (98 : Int32)), (nar .char (90 : Int32)), (nar .char (122 : Int32)), (nar .char (48 : Int32)), (nar .char (57 : Int32)), (nar .char (45 : Int32)), (nar .char (95 : Int32)), (nar .char (65 : Int32)), (nar .char (98 : Int32)), (nar .char (90 : Int32)), (nar .char (122 : Int32)), (nar .char (48 : Int32)), (nar .char (57 : Int32)), (nar .char (45 : Int32)), (nar .char (95 : Int32)), (nar .char (65 : Int32)), (nar .char (98 : Int32)), (nar .char (90 : Int32)), (nar .char (122 : Int32)), (nar .char (48 : Int32)), (nar .char (57 : Int32)), (nar .char (45 : Int32)), (nar .char (95 : Int32)), (nar .char (65 : Int32)), (nar .char (98 : Int32)), (nar .char (90 : Int32)), (nar .char (122 : Int32)), (nar .char (48 : Int32)), (nar .char (57 : Int32)), (nar .char (45 : Int32)), (nar .char (95 : Int32)), (nar .char (65 : Int32)), (nar .char (98 : Int32)), (nar .char (90 : Int32)), (nar .char (122 : Int32)), (nar .char (48 : Int32)), (nar .char (57 : Int32)), (nar .char (45 : Int32)), (nar .char (95 : Int32)), (nar .char (65 : Int32)), (nar .char (98 : Int32)), (nar .char (90 : Int32)), (nar .char (122 : Int32)), (nar .char (48 : Int32)), (nar .char (57 : Int32)), (nar .char (45 : Int32)), (nar .char (95 : Int32)), (nar .char (113 : Int32))] : List Int32)).map (fun c => c.toInt8.toInt32)) (n := 65) (Nat.le_trans Z0 (Nat.le_trans K438.1 (Nat.le_of_eq g442.symm))) z442 A442 F442_value F442_coder (((V429_b225.ext E434).keep Kq438 (ninS (Nat.ne_of_lt (Nat.lt_of_lt_of_le V429_b225.lt (Nat.le_of_eq g434.symm))) nin0)).ext E442) (O2.ext (((O429.ext E434).keep Kq438 (allS (Nat.le_trans Z0 (Nat.le_trans K429.1 (Nat.le_of_eq g434.symm))) all0)).ext E442).2) P5 rfl rfl (by decide) (by decide) hp445 rfl (by decide) (by decide)) (g := (mkF m 821 #[vi p0, vi pk, vr uk, vr b21, vr b225, vr b434, .unset, .unset] [(.ref b225), (.ref b442), (.ref b442)])) rfl (by rw [hml]; rfl) (Steps.refl _) (a := b442) (argsL := [(.ref b225)]) (rest := [(.ref b442)]) (lenOf pd_oaCcV rfl) rfl (by show 2 * 0 + _ ≤ _; exact Nat.le_of_eq rfl) (hb hby at_821) (fun _ _ => ⟨rfl, e442, (by decide : 5 + 1 ≤ _), (by decide : 201 + 65 ≤ _)⟩)
  dsimp only [Pt.U, Pt.locs, Pt.cells, Pt.slots] at X446 l446 y446 z446 st446 hQ446
  subst l446 y446 z446
  obtain ⟨rfl, Nq446, Kq446, Ex446, Fc446, t446, kb446, ge446, gh446, ne446, Fv446, Va446⟩ := hQ446
  have c447 : SS p e below S0 (T446.setTop (mkF m 824 #[vi p0, vi pk, vr uk, vr b21, vr b225, vr b434, .unset, .unset] [(.ref b442)])) := c444.trans (st446)
  have N446 := Fr.app N438 Nq446
  have z446 : n0 ≤ T446.heap.size := Nat.le_trans z442 Kq446.1
  have K446 := K442.trans Kq446 (allS (Or.inr (Nat.le_trans K438.1 (Nat.le_of_eq g442.symm))) all0)
  have lt_t446 : t446 < T446.heap.size := Va446.lt
  have hcd446 : StrChars.Road.CodA ([(nar .char (65 : Int32)), (nar .char (98 : Int32)), (nar .char (90 : Int32)), (nar .char (122 : Int32)), (nar .char (48 : Int32)), (nar .char (57 : Int32)), (nar .char (45 : Int32)), (nar .char (95 : Int32)), (nar .char (65 : Int32)), (nar .char (98 : Int32)), (nar .char (90 : Int32)), (nar .char (122 : Int32)), (nar .char (48 : Int32)), (nar .char (57 : Int32)), (nar .char (45 : Int32)), (nar .char (95 : Int32)), (nar .char (65 : Int32)), (nar .char (98 : Int32)), (nar .char (90 : Int32)), (nar .char (122 : Int32)), (nar .char (48 : Int32)), (nar .char (57 : Int32)), (nar .char (45 : Int32)), (nar .char (95 : Int32)), (nar .char (65 : Int32)), (nar .char (98 : Int32)), (nar .char (90 : Int32)), (nar .char (122 : Int32)), (nar .char (48 : Int32)), (nar .char (57 : Int32)), (nar .char (45 : Int32)), (nar .char (95 : Int32)), (nar .char (65 : Int32)), (nar .char (98 : Int32)), (nar .char (90 : Int32)), (nar .char (122 : Int32)), (nar .char (48 : Int32)), (nar .char (57 : Int32)), (nar .char (45 : Int32)), (nar .char (95 : Int32)), (nar .char (65 : Int32)), (nar .char (98 : Int32)), (nar .char (90 : Int32)), (nar .char (122 : Int32)), (nar .char (48 : Int32)), (nar .char (57 : Int32)), (nar .char (45 : Int32)), (nar .char (95 : Int32)), (nar .char (65 : Int32)), (nar .char (98 : Int32)), (nar .char (90 : Int32)), (nar .char (122 : Int32)), (nar .char (48 : Int32)), (nar .char (57 : Int32)), (nar .char (45 : Int32)), (nar .char (95 : Int32)), (nar .char (65 : Int32)), (nar .char (98 : Int32)), (nar .char (90 : Int32)), (nar .char (122 : Int32)), (nar .char (48 : Int32)), (nar .char (57 : Int32)), (nar .char (45 : Int32)), (nar .char (95 : Int32)), (nar .char (113 : Int32))] : List Int32) 0 (65 : Int32) (((([(nar .char (65 : Int32)), (nar .char (98 : Int32)), (nar .char (90 : Int32)), (nar .char (122 : Int32)), (nar .char (48 : Int32)), (nar .char (57 : Int32)), (nar .char (45 : Int32)), (nar .char (95 : Int32)), (nar .char (65 : Int32)), (nar .char (98 : Int32)), (nar .char (90 : Int32)), (nar .char (122 : Int32)), (nar .char (48 : Int32)), (nar .char (57 : Int32)), (nar .char (45 : Int32)), (nar .char (95 : Int32)), (nar .char (65 : Int32)), (nar .char (98 : Int32)), (nar .char (90 : Int32)), (nar .char (122 : Int32)), (nar .char (48 : Int32)), (nar .char (57 : Int32)), (nar .char (45 : Int32)), (nar .char (95 : Int32)), (nar .char (65 : Int32)), (nar .char (98 : Int32)), (nar .char (90 : Int32)), (nar .char (122 : Int32)), (nar .char (48 : Int32)), (nar .char (57 : Int32)), (nar .char (45 : Int32)), (nar .char (95 : Int32)), (nar .char (65 : Int32)), (nar .char (98 : Int32)), (nar .char (90 : Int32)), (nar .char (122 : Int32)), (nar .char (48 : Int32)), (nar .char (57 : Int32)), (nar .char (45 : Int32)), (nar .char (95 : Int32)), (nar .char (65 : Int32)), (nar .char (98 : Int32)), (nar .char (90 : Int32)), (nar .char (122 : Int32)), (nar .char (48 : Int32)), (nar .char (57 : Int32)), (nar .char (45 : Int32)), (nar .char (95 : Int32)), (nar .char (65 : Int32)), (nar .char (98 : Int32)), (nar .char (90 : Int32)), (nar .char (122 : Int32)), (nar .char (48 : Int32)), (nar .char (57 : Int32)), (nar .char (45 : Int32)), (nar .char (95 : Int32)), (nar .char (65 : Int32)), (nar .char (98 : Int32)), (nar .char (90 : Int32)), (nar .char (122 : Int32)), (nar .char (48 : Int32)), (nar .char (57 : Int32)), (nar .char (45 : Int32)), (nar .char (95 : Int32)), (nar .char (113 : Int32))] : List Int32)).map (fun c => c.toInt8.toInt32)).map Value.int) := StrChars.Road.codOf (n := 65) rfl (fun c hc => (hp445 c hc).2)
  obtain ⟨cs448, hcs448⟩ : ∃ z : List Int32, z = ([(nar .char (65 : Int32)), (nar .char (98 : Int32)), (nar .char (90 : Int32)), (nar .char (122 : Int32)), (nar .char (48 : Int32)), (nar .char (57 : Int32)), (nar .char (45 : Int32)), (nar .char (95 : Int32)), (nar .char (65 : Int32)), (nar .char (98 : Int32)), (nar .char (90 : Int32)), (nar .char (122 : Int32)), (nar .char (48 : Int32)), (nar .char (57 : Int32)), (nar .char (45 : Int32)), (nar .char (95 : Int32)), (nar .char (65 : Int32)), (nar .char (98 : Int32)), (nar .char (90 : Int32)), (nar .char (122 : Int32)), (nar .char (48 : Int32)), (nar .char (57 : Int32)), (nar .char (45 : Int32)), (nar .char (95 : Int32)), (nar .char (65 : Int32)), (nar .char (98 : Int32)), (nar .char (90 : Int32)), (nar .char (122 : Int32)), (nar .char (48 : Int32)), (nar .char (57 : Int32)), (nar .char (45 : Int32)), (nar .char (95 : Int32)), (nar .char (65 : Int32)), (nar .char (98 : Int32)), (nar .char (90 : Int32)), (nar .char (122 : Int32)), (nar .char (48 : Int32)), (nar .char (57 : Int32)), (nar .char (45 : Int32)), (nar .char (95 : Int32)), (nar .char (65 : Int32)), (nar .char (98 : Int32)), (nar .char (90 : Int32)), (nar .char (122 : Int32)), (nar .char (48 : Int32)), (nar .char (57 : Int32)), (nar .char (45 : Int32)), (nar .char (95 : Int32)), (nar .char (65 : Int32)), (nar .char (98 : Int32)), (nar .char (90 : Int32)), (nar .char (122 : Int32)), (nar .char (48 : Int32)), (nar .char (57 : Int32)), (nar .char (45 : Int32)), (nar .char (95 : Int32)), (nar .char (65 : Int32)), (nar .char (98 : Int32)), (nar .char (90 : Int32)), (nar .char (122 : Int32)), (nar .char (48 : Int32)), (nar .char (57 : Int32)), (nar .char (45 : Int32)), (nar .char (95 : Int32)), (nar .char (113 : Int32))] : List Int32) := ⟨_, rfl⟩
  have So448 : OStr Z T446.heap b442 t446 kb446 cs448 := by rw [hcs448]; exact ⟨Ex446, Fv446, Fc446, Va446, hp445, Nat.le_of_ble_eq_true rfl⟩
  have hl448 : cs448.length = 65 := by rw [hcs448]; rfl
  have c449 : SS p e below S0 (T446.setTop (mkF m 826 #[vi p0, vi pk, vr uk, vr b21, vr b225, vr b434, vr b442, .unset] [])) := c447.trans (by
    show SS p e below (T446.setTop (mkF m 824 #[vi p0, vi pk, vr uk, vr b21, vr b225, vr b434, .unset, .unset] [(.ref b442)])) _
    refine XS.astore X446.here hx rfl (hb hby at_824) rfl rfl (l' := #[vi p0, vi pk, vr uk, vr b21, vr b225, vr b434, vr b442, .unset]) rfl ?_
    exact Steps.refl _)
  obtain ⟨_, _, ⟨T450, L450, kk450, nn450⟩, -, X450, ⟨Lc450, hQ450, l450, y450, z450⟩, st450⟩ := Jvm.LawKit.callS X446 hx (y := (⟨"com/example/pricefold/pricefold/model/Identifier", "longest", "()I"⟩ : MethodName)) hown (mvT hZ (ww hw 34 rfl)) (mvT hZ (ww hw 35 rfl)) (mvT hZ (ww hw 2 rfl)) (mvT hZ (ww hw 36 rfl)) (by decide) (backOf (W := 0) (rmLong l Z a0 hw [] u0 u1 u2 aV kV T446.heap n0 z446 su0 su1 su2 xu0 xu1 xu2 ou0 ou1 ou2 sV VV EV hF ((((O429.ext E434).keep Kq438 (allS (Nat.le_trans Z0 (Nat.le_trans K429.1 (Nat.le_of_eq g434.symm))) all0)).ext E442).keep Kq446 (allS (Nat.le_trans Z0 (Nat.le_trans K438.1 (Nat.le_of_eq g442.symm))) all0))) hZ (ww hw 36 rfl) (ww hw 2 rfl) (by decide) (by decide)) (g := (mkF m 826 #[vi p0, vi pk, vr uk, vr b21, vr b225, vr b434, vr b442, .unset] [])) rfl (by rw [hml]; rfl) (argsL := []) (rest := []) (lenOf pd_ocI rfl) rfl (by show 2 * 0 + _ ≤ _; exact Nat.le_of_eq rfl) (hb hby at_826) (fun _ _ => ⟨rfl, rfl, (by decide : 6 + 1 ≤ _), (by decide : 266 + 3 ≤ _)⟩)
  dsimp only [Pt.U, Pt.locs, Pt.cells, Pt.slots] at X450 l450 y450 z450 st450 hQ450
  subst l450 y450 z450
  obtain ⟨rfl, Nq450, Kq450⟩ := hQ450
  have c451 : SS p e below S0 (T450.setTop (mkF m 829 #[vi p0, vi pk, vr uk, vr b21, vr b225, vr b434, vr b442, .unset] [(.int 64)])) := c449.trans (st450 _ (Steps.refl _))
  have N450 := Fr.app N446 Nq450
  have z450 : n0 ≤ T450.heap.size := Nat.le_trans z446 Kq450.1
  have K450 := K446.trans Kq450 all0
  have c452 : SS p e below S0 (T450.setTop (mkF m 835 #[vi p0, vi pk, vr uk, vr b21, vr b225, vr b434, vr b442, vi 64] [(.ref b434), (.int 64)])) := c451.trans (by
    show SS p e below (T450.setTop (mkF m 829 #[vi p0, vi pk, vr uk, vr b21, vr b225, vr b434, vr b442, .unset] [(.int 64)])) _
    refine XS.istore X450.here hx rfl (hb hby at_829) rfl (l' := #[vi p0, vi pk, vr uk, vr b21, vr b225, vr b434, vr b442, vi 64]) rfl ?_
    refine XS.iload X450.here hx rfl (hb hby at_831) rfl ?_
    refine XS.aload X450.here hx rfl (hb hby at_833) rfl rfl ?_
    exact Steps.refl _)
  have hln453 : ∀ d ∈ StrChars.Road.wordsLen, d.before a0 Z = true := fun d hd => hw d (own_in_wordsLen d hd)
  obtain ⟨cq454, kq454, q454a, q454b, q454c⟩ := isOf hZ rfl (((So440.1.ext E442).keep Kq446).keep Kq450)
  obtain ⟨_, _, ⟨T454, L454, kk454, nn454⟩, -, X454, ⟨Lc454, hQ454, l454, y454, z454⟩, st454⟩ := X450.virtualBack hx (y := (⟨"java/lang/String", "length", "()I"⟩ : MethodName)) (z := (⟨"java/lang/String", "length", "()I"⟩ : MethodName)) hown (mvT hZ (ww hw 60 rfl)) (mvT hZ (ww hw 61 rfl)) (notFace_of_selects (args := #[]) (mvT hZ (ww hw 63 rfl))) (mvT hZ (ww hw 63 rfl)) (mvT hZ (ww hw 62 rfl)) (by decide) (StrChars.Road.lenW (W := 1) hZ hln453 (kI := 4) (ww hw 6 rfl) (((So440.1.ext E442).keep Kq446).keep Kq450) (((So440.2.1.ext E442).keep Kq446 (ninS (Nat.ne_of_lt (Nat.lt_of_lt_of_le So440.1.lt (Nat.le_of_eq g442.symm))) nin0)).keep Kq450 nin0) (((So440.2.2.1.ext E442).keep Kq446 (ninS (Nat.ne_of_lt (Nat.lt_of_lt_of_le So440.1.lt (Nat.le_of_eq g442.symm))) nin0)).keep Kq450 nin0) (((So440.2.2.2.1.ext E442).keep Kq446 (ninS (Nat.ne_of_lt (Nat.lt_of_lt_of_le lt_t438 (Nat.le_of_eq g442.symm))) nin0)).keep Kq450 nin0) So440.cod (own_up _ So440.2.2.2.2.1) (O2.ext (((((O429.ext E434).keep Kq438 (allS (Nat.le_trans Z0 (Nat.le_trans K429.1 (Nat.le_of_eq g434.symm))) all0)).ext E442).keep Kq446 (allS (Nat.le_trans Z0 (Nat.le_trans K438.1 (Nat.le_of_eq g442.symm))) all0)).keep Kq450 all0).2) P5 So440.2.2.2.2.2 (by decide) (by decide)) q454a q454c (g := (mkF m 835 #[vi p0, vi pk, vr uk, vr b21, vr b225, vr b434, vr b442, vi 64] [(.ref b434), (.int 64)])) rfl (by rw [hml]; rfl) (Steps.refl _) (argsL := []) (rest := [(.int 64)]) (lenOf pd_ocI rfl) rfl (by show 2 * 0 + _ ≤ _; exact Nat.le_of_eq rfl) (hb hby at_835) (fun _ _ => ⟨rfl, rfl, (by decide : 7 + 0 ≤ _), (by decide : 269 + 0 ≤ _)⟩)
  dsimp only [Pt.U, Pt.locs, Pt.cells, Pt.slots] at X454 l454 y454 z454 st454 hQ454
  subst l454 y454 z454
  obtain ⟨rfl, Lq454, eq454⟩ := hQ454
  have c455 : SS p e below S0 (T454.setTop (mkF m 838 #[vi p0, vi pk, vr uk, vr b21, vr b225, vr b434, vr b442, vi 64] [(.int (Int32.ofNat cs440.length)), (.int 64)])) := c452.trans (st454)
  have N454 := Fr.app N450 (Lq454 ▸ Fr.nil n0)
  rw [(show Int32.ofNat cs440.length = (64 : Int32) by rw [hl440]; rfl)] at c455
  have c456 : SS p e below S0 (T454.setTop (mkF m 847 #[vi p0, vi pk, vr uk, vr b21, vr b225, vr b434, vr b442, vi 64] [(.ref b442), (.int 65)])) := c455.trans (by
    show SS p e below (T454.setTop (mkF m 838 #[vi p0, vi pk, vr uk, vr b21, vr b225, vr b434, vr b442, vi 64] [(.int 64), (.int 64)])) _
    refine XS.icmpNo X454.here hx rfl (hb hby at_838) rfl (teq (by decide : ((64 : Int32) = (64 : Int32)))).2 ?_
    refine XS.iload X454.here hx rfl (hb hby at_841) rfl ?_
    refine XS.iconst X454.here hx rfl (hb hby at_843) ?_
    refine XS.iadd X454.here hx rfl (hb hby at_844) rfl ?_
    show SS p e below (T454.setTop (mkF m 845 #[vi p0, vi pk, vr uk, vr b21, vr b225, vr b434, vr b442, vi 64] [(.int 65)])) _
    refine XS.aload X454.here hx rfl (hb hby at_845) rfl rfl ?_
    exact Steps.refl _)
  have hln457 : ∀ d ∈ StrChars.Road.wordsLen, d.before a0 Z = true := fun d hd => hw d (own_in_wordsLen d hd)
  obtain ⟨cq458, kq458, q458a, q458b, q458c⟩ := isOf hZ eq454 (So448.1.keep Kq450)
  obtain ⟨_, _, ⟨T458, L458, kk458, nn458⟩, -, X458, ⟨Lc458, hQ458, l458, y458, z458⟩, st458⟩ := X454.virtualBack hx (y := (⟨"java/lang/String", "length", "()I"⟩ : MethodName)) (z := (⟨"java/lang/String", "length", "()I"⟩ : MethodName)) hown (mvT hZ (ww hw 60 rfl)) (mvT hZ (ww hw 61 rfl)) (notFace_of_selects (args := #[]) (mvT hZ (ww hw 63 rfl))) (mvT hZ (ww hw 63 rfl)) (mvT hZ (ww hw 62 rfl)) (by decide) (StrChars.Road.lenW (W := 1) hZ hln457 (kI := 4) (ww hw 6 rfl) (So448.1.keep Kq450) (So448.2.1.keep Kq450 nin0) (So448.2.2.1.keep Kq450 nin0) (So448.2.2.2.1.keep Kq450 nin0) So448.cod (own_up _ So448.2.2.2.2.1) (O2.ext (((((O429.ext E434).keep Kq438 (allS (Nat.le_trans Z0 (Nat.le_trans K429.1 (Nat.le_of_eq g434.symm))) all0)).ext E442).keep Kq446 (allS (Nat.le_trans Z0 (Nat.le_trans K438.1 (Nat.le_of_eq g442.symm))) all0)).keep Kq450 all0).2) P5 So448.2.2.2.2.2 (by decide) (by decide)) q458a q458c (g := (mkF m 847 #[vi p0, vi pk, vr uk, vr b21, vr b225, vr b434, vr b442, vi 64] [(.ref b442), (.int 65)])) rfl (by rw [hml]; rfl) (Steps.refl _) (argsL := []) (rest := [(.int 65)]) (lenOf pd_ocI rfl) rfl (by show 2 * 0 + _ ≤ _; exact Nat.le_of_eq rfl) (hb hby at_847) (fun _ _ => ⟨rfl, eq454, (by decide : 7 + 0 ≤ _), (by decide : 269 + 0 ≤ _)⟩)
  dsimp only [Pt.U, Pt.locs, Pt.cells, Pt.slots] at X458 l458 y458 z458 st458 hQ458
  subst l458 y458 z458
  obtain ⟨rfl, Lq458, eq458⟩ := hQ458
  have c459 : SS p e below S0 (T458.setTop (mkF m 850 #[vi p0, vi pk, vr uk, vr b21, vr b225, vr b434, vr b442, vi 64] [(.int (Int32.ofNat cs448.length)), (.int 65)])) := c456.trans (st458)
  have N458 := Fr.app N454 (Lq458 ▸ Fr.nil n0)
  rw [(show Int32.ofNat cs448.length = (65 : Int32) by rw [hl448]; rfl)] at c459
  have c460 : SS p e below S0 (T458.setTop (mkF m 856 #[vi p0, vi pk, vr uk, vr b21, vr b225, vr b434, vr b442, vi 64] [(.ref b434), (.ref uk)])) := c459.trans (by
    show SS p e below (T458.setTop (mkF m 850 #[vi p0, vi pk, vr uk, vr b21, vr b225, vr b434, vr b442, vi 64] [(.int 65), (.int 65)])) _
    refine XS.icmpNo X458.here hx rfl (hb hby at_850) rfl (teq (by decide : ((65 : Int32) = (65 : Int32)))).2 ?_
    refine XS.aloadN X458.here hx rfl (hb hby at_853) rfl rfl ?_
    refine XS.aload X458.here hx rfl (hb hby at_854) rfl rfl ?_
    exact Steps.refl _)
  have f461 := (((((O429.ext E434).keep Kq438 (allS (Nat.le_trans Z0 (Nat.le_trans K429.1 (Nat.le_of_eq g434.symm))) all0)).ext E442).keep Kq446 (allS (Nat.le_trans Z0 (Nat.le_trans K438.1 (Nat.le_of_eq g442.symm))) all0)).keep Kq450 all0)
  obtain ⟨cq462, kq462, q462a, q462b, q462c⟩ := isOf hZ eq458 (xuk.ext f461.2)
  obtain ⟨_, _, ⟨T462, L462, kk462, nn462⟩, -, X462, ⟨Lc462, hQ462, l462, y462, z462⟩, st462⟩ := X458.virtualBack hx (y := (⟨"com/example/pricefold/pricefold/model/Identifier", "matches", "(Ljava/lang/String;)Z"⟩ : MethodName)) (z := (⟨"com/example/pricefold/pricefold/model/Identifier", "matches", "(Ljava/lang/String;)Z"⟩ : MethodName)) hown (mvT hZ (ww hw 70 rfl)) (mvT hZ (ww hw 71 rfl)) (notFace_of_selects (args := #[]) (mvT hZ (ww hw 73 rfl))) (mvT hZ (ww hw 73 rfl)) (mvT hZ (ww hw 72 rfl)) (by decide) (backOf (W := 0) (rmMa l Z a0 hw [] uk b434 t438 kb438 cs440 ls ea q0 q1 q2 q3 q4 ke G1 G3 T450.heap n0 z450 (ouk.ext f461.2) ⟨(((So440.1.ext E442).keep Kq446).keep Kq450), (((So440.2.1.ext E442).keep Kq446 (ninS (Nat.ne_of_lt (Nat.lt_of_lt_of_le So440.1.lt (Nat.le_of_eq g442.symm))) nin0)).keep Kq450 nin0), (((So440.2.2.1.ext E442).keep Kq446 (ninS (Nat.ne_of_lt (Nat.lt_of_lt_of_le So440.1.lt (Nat.le_of_eq g442.symm))) nin0)).keep Kq450 nin0), (((So440.2.2.2.1.ext E442).keep Kq446 (ninS (Nat.ne_of_lt (Nat.lt_of_lt_of_le lt_t438 (Nat.le_of_eq g442.symm))) nin0)).keep Kq450 nin0), So440.2.2.2.2.1, So440.2.2.2.2.2⟩ hl440 ham440 sC xls fls Vea xq0 xq1 xq2 xq3 xq4 fq0_0 fq0_1 fq1_0 fq1_1 fq2_0 fq2_1 fq3_0 fq3_1 fq4_0 fq4_1 O2 P5 f461 O4 rG3) hZ (ww hw 74 rfl) (ww hw 2 rfl) (by decide) (by decide)) q462a q462c (g := (mkF m 856 #[vi p0, vi pk, vr uk, vr b21, vr b225, vr b434, vr b442, vi 64] [(.ref b434), (.ref uk)])) rfl (by rw [hml]; rfl) (Steps.refl _) (argsL := [(.ref b434)]) (rest := []) (lenOf pd_oLjavaslangsStringecZ rfl) rfl (by show 2 * 0 + _ ≤ _; exact Nat.le_of_eq rfl) (hb hby at_856) (fun _ _ => ⟨rfl, eq458, (by decide : 7 + 64 ≤ _), (by decide : 269 + 256 ≤ _)⟩)
  dsimp only [Pt.U, Pt.locs, Pt.cells, Pt.slots] at X462 l462 y462 z462 st462 hQ462
  subst l462 y462 z462
  obtain ⟨rfl, Nq462, Kq462⟩ := hQ462
  have c463 : SS p e below S0 (T462.setTop (mkF m 859 #[vi p0, vi pk, vr uk, vr b21, vr b225, vr b434, vr b442, vi 64] [(.int 1)])) := c460.trans (st462)
  have N462 := Fr.app N458 Nq462
  have z462 : n0 ≤ T462.heap.size := Nat.le_trans z450 Kq462.1
  have K462 := K450.trans Kq462 all0
  have c464 : SS p e below S0 (T462.setTop (mkF m 865 #[vi p0, vi pk, vr uk, vr b21, vr b225, vr b434, vr b442, vi 64] [(.ref b442), (.ref uk)])) := c463.trans (by
    show SS p e below (T462.setTop (mkF m 859 #[vi p0, vi pk, vr uk, vr b21, vr b225, vr b434, vr b442, vi 64] [(.int 1)])) _
    refine XS.ifNo X462.here hx rfl (hb hby at_859) rfl ((if0 _ _).trans (feq (by decide : ¬ ((1 : Int32) = (0 : Int32)))).1) ?_
    refine XS.aloadN X462.here hx rfl (hb hby at_862) rfl rfl ?_
    refine XS.aload X462.here hx rfl (hb hby at_863) rfl rfl ?_
    exact Steps.refl _)
  have f465 := (f461.keep Kq462 all0)
  obtain ⟨cq466, kq466, q466a, q466b, q466c⟩ := isOf hZ rfl (xuk.ext f465.2)
  obtain ⟨_, _, ⟨T466, L466, kk466, nn466⟩, -, X466, ⟨Lc466, hQ466, l466, y466, z466⟩, st466⟩ := X462.virtualBack hx (y := (⟨"com/example/pricefold/pricefold/model/Identifier", "matches", "(Ljava/lang/String;)Z"⟩ : MethodName)) (z := (⟨"com/example/pricefold/pricefold/model/Identifier", "matches", "(Ljava/lang/String;)Z"⟩ : MethodName)) hown (mvT hZ (ww hw 70 rfl)) (mvT hZ (ww hw 71 rfl)) (notFace_of_selects (args := #[]) (mvT hZ (ww hw 73 rfl))) (mvT hZ (ww hw 73 rfl)) (mvT hZ (ww hw 72 rfl)) (by decide) (backOf (W := 0) (rmMaL l Z a0 hw [] uk b442 t446 kb446 cs448 G1 T462.heap n0 z462 (ouk.ext f465.2) ⟨((So448.1.keep Kq450).keep Kq462), ((So448.2.1.keep Kq450 nin0).keep Kq462 nin0), ((So448.2.2.1.keep Kq450 nin0).keep Kq462 nin0), ((So448.2.2.2.1.keep Kq450 nin0).keep Kq462 nin0), So448.2.2.2.2.1, So448.2.2.2.2.2⟩ hl448 O2 P5 f465) hZ (ww hw 74 rfl) (ww hw 2 rfl) (by decide) (by decide)) q466a q466c (g := (mkF m 865 #[vi p0, vi pk, vr uk, vr b21, vr b225, vr b434, vr b442, vi 64] [(.ref b442), (.ref uk)])) rfl (by rw [hml]; rfl) (Steps.refl _) (argsL := [(.ref b442)]) (rest := []) (lenOf pd_oLjavaslangsStringecZ rfl) rfl (by show 2 * 0 + _ ≤ _; exact Nat.le_of_eq rfl) (hb hby at_865) (fun _ _ => ⟨rfl, rfl, (by decide : 71 + 0 ≤ _), (by decide : 525 + 0 ≤ _)⟩)
  dsimp only [Pt.U, Pt.locs, Pt.cells, Pt.slots] at X466 l466 y466 z466 st466 hQ466
  subst l466 y466 z466
  obtain ⟨rfl, Nq466, eq466⟩ := hQ466
  have c467 : SS p e below S0 (T466.setTop (mkF m 868 #[vi p0, vi pk, vr uk, vr b21, vr b225, vr b434, vr b442, vi 64] [(.int 0)])) := c464.trans (st466)
  have N466 := Fr.app N462 Nq466
  have c468 : SS p e below S0 (T466.setTop (mkF m 876 #[vi p0, vi pk, vr uk, vr b21, vr b225, vr b434, vr b442, vi 64] [(.int 1)])) := c467.trans (by
    show SS p e below (T466.setTop (mkF m 868 #[vi p0, vi pk, vr uk, vr b21, vr b225, vr b434, vr b442, vi 64] [(.int 0)])) _
    refine XS.ifNo X466.here hx rfl (hb hby at_868) rfl ((if0 _ _).trans (teq (by decide : ((0 : Int32) = (0 : Int32)))).2) ?_
    refine XS.iconst X466.here hx rfl (hb hby at_871) ?_
    refine XS.goto X466.here hx rfl (pc0 := 872) (pc' := 876) rfl (hb hby at_872) (by decide) (by decide) ?_
    exact Steps.refl _)
  obtain ⟨fs, hr, hrun, hended, hW, hsame⟩ := X466.leave (v := some (.int 1)) (fun h => by rw [Bd.returns] at h; cases h)
  refine ⟨_, _, c468.trans (retOut X466 hx Bd.returns rfl (Or.inl ⟨rfl, by simp, _, rfl⟩) (hb hby at_876) hr), hrun, hended, _, _, rfl, ?_, ⟨_, rfl⟩, hW, hsame.mono (by first | decide | exact Nat.le_of_ble_eq_true rfl) (by first | decide | exact Nat.le_of_ble_eq_true rfl)⟩
  show Q0 Z  h0 n0 _ T466.heap _
  rw [eq466]
  exact ⟨rfl, N466⟩

set_option maxRecDepth 65536 in
set_option maxHeartbeats 40000000 in
theorem comes_1 {Post : Tables → Env → Array Value → State → Outcome → State → Prop} (hpost : ∀ tb e args s v u, (limb_1_1.after args s (.returned v) u = true ∧ limb_1_2.after args s (.returned v) u = true ∧ True) → FrameEnd s (.returned v) u (Jvm.fieldLocs frame_1_writes args s ++ Jvm.arrayLocs frame_1_arrays args s ++ Jvm.staticLocs frame_1_statics s) 152 1152 → Post tb e args s (.returned v) u) :
    ArmFor flags0 classFile x code maxLocals ret World_1 tables_1 room_1 Calls_1 rest_1 Pre_1 Post := by
  intro l hfl _ _ p e ha hc hk s m args below hf hA hF happ hP
  obtain ⟨hcalls, hrest, hpre⟩ := hP
  obtain ⟨-, -, -, hnamed, -, -, -, hat⟩ := (Spec.applies_iff hf).mp happ
  obtain ⟨hg, hn⟩ := and_e (Cond.before_iff.mp (show (Jvm.Cond.and given_1 narrow_1).before args s = true from hpre))
  obtain ⟨hcnt, hr1⟩ := and_e hg
  obtain ⟨w0, rfl⟩ : ∃ w0 : Value, args = #[w0] := by
    have hs : args.size = 1 := by simpa [Cond.value, given_1] using hcnt
    obtain ⟨L⟩ := args
    match L, hs with
    | [w0], _ => exact ⟨w0, rfl⟩
  have hw := fun d (hd : d ∈ tables_1) => atoms_spec (ws := Jvm.Cond.code x code maxLocals ret :: tables_1) hat d (List.mem_cons_of_mem _ hd)
  have hfit : Fit s := fun {y c} hc i hi => by
    obtain ⟨ha, rfl⟩ := Array.getElem?_eq_some_iff.mp hc
    have q := List.all_eq_true.mp ((Array.all_eq_true_iff_forall_mem.mp hF) _ (Array.getElem_mem ha)) i (List.mem_range.mpr hi)
    simpa [Array.getElem?_eq_getElem hi] using q
  obtain ⟨hsets, hown0⟩ := atoms_of _ (rest_1_c_eq ▸ (show rest_1_c.before _ s = true from hrest))
  obtain ⟨i0, ei0⟩ := is_v hr1
  obtain rfl : w0 = (.int i0) := Option.some.inj ei0
  have n3 := not_v (Cond.before_iff.mp (hsets _ (List.mem_of_getElem? (i := 2) rfl)))
  obtain ⟨G1, eG1⟩ := is_v (Cond.before_iff.mp (hsets _ (List.mem_of_getElem? (i := 1) rfl)))
  have O2 : Sta s s.heap "java/lang/String" "COMPACT_STRINGS" "Z" (.int G1) := Sta.start eG1 (Or.inl (hsets _ (List.mem_of_getElem? (i := 0) rfl)))
  have P5 : ¬ (G1 = (0 : Int32)) := gotF (Cond.eq_ints eG1 (Term.int_eval (0))) n3
  obtain ⟨G3, eG3, rG3⟩ := isR_v (Cond.before_iff.mp (hsets _ (List.mem_of_getElem? (i := 8) rfl)))
  have O4 : Sta s s.heap "jdk/internal/util/Preconditions" "SIOOBE_FORMATTER" "Ljava/util/function/BiFunction;" G3 := Sta.start eG3 (Or.inl (hsets _ (List.mem_of_getElem? (i := 7) rfl)))
  obtain ⟨nw0, nr0⟩ := and_e hn
  obtain ⟨nw1, nr1⟩ := and_e nr0
  obtain ⟨nw2, nr2⟩ := and_e nr1
  obtain ⟨nw3, nr3⟩ := and_e nr2
  obtain ⟨nw4, nr4⟩ := and_e nr3
  obtain ⟨nw5, nr5⟩ := and_e nr4
  obtain ⟨nw6, nr6⟩ := and_e nr5
  obtain ⟨nw7, nr7⟩ := and_e nr6
  obtain ⟨nw8, nr8⟩ := and_e nr7
  obtain ⟨nw9, nr9⟩ := and_e nr8
  obtain ⟨nw10, nr10⟩ := and_e nr9
  obtain ⟨nw11, nr11⟩ := and_e nr10
  obtain ⟨nw12, nr12⟩ := and_e nr11
  obtain ⟨nw13, nr13⟩ := and_e nr12
  obtain ⟨nw14, nr14⟩ := and_e nr13
  obtain ⟨nw15, nr15⟩ := and_e nr14
  obtain ⟨nw16, nr16⟩ := and_e nr15
  obtain ⟨nw17, nr17⟩ := and_e nr16
  obtain ⟨nw18, nr18⟩ := and_e nr17
  obtain ⟨nw19, nr19⟩ := and_e nr18
  obtain ⟨nw20, nr20⟩ := and_e nr19
  obtain ⟨nw21, nr21⟩ := and_e nr20
  obtain ⟨nw22, nr22⟩ := and_e nr21
  obtain ⟨nw23, nr23⟩ := and_e nr22
  obtain ⟨nw24, nr24⟩ := and_e nr23
  obtain ⟨nw25, nr25⟩ := and_e nr24
  obtain ⟨nw26, nr26⟩ := and_e nr25
  obtain ⟨nw27, nr27⟩ := and_e nr26
  obtain ⟨nw28, nr28⟩ := and_e nr27
  have nw29 := nr28
  obtain ⟨u0, evu0⟩ := exa_v nw0
  have su0 : Sta s s.heap "com/example/pricefold/pricefold/model/Identifier" "VOUCHER_CODE" "Lcom/example/pricefold/pricefold/model/Identifier;" (.ref u0) := Sta.start evu0 (Or.inr ⟨hw _ (List.mem_of_getElem? (i := 2) rfl), hw _ (List.mem_of_getElem? (i := 3) rfl)⟩)
  have xu0 : Exa s s.heap u0 "com/example/pricefold/pricefold/model/Identifier" := Exa.start evu0 nw0
  have ou0 : Fld s s.heap u0 "com/example/pricefold/pricefold/model/Identifier" "mostCharacters" "I" (.int (64 : Int32)) := own_fld evu0 nw9
  obtain ⟨u1, evu1⟩ := exa_v nw5
  have su1 : Sta s s.heap "com/example/pricefold/pricefold/model/Identifier" "ORDER_ID" "Lcom/example/pricefold/pricefold/model/Identifier;" (.ref u1) := Sta.start evu1 (Or.inr ⟨hw _ (List.mem_of_getElem? (i := 2) rfl), hw _ (List.mem_of_getElem? (i := 49) rfl)⟩)
  have xu1 : Exa s s.heap u1 "com/example/pricefold/pricefold/model/Identifier" := Exa.start evu1 nw5
  have ou1 : Fld s s.heap u1 "com/example/pricefold/pricefold/model/Identifier" "mostCharacters" "I" (.int (64 : Int32)) := own_fld evu1 nw10
  obtain ⟨u2, evu2⟩ := exa_v nw7
  have su2 : Sta s s.heap "com/example/pricefold/pricefold/model/Identifier" "CHANNEL" "Lcom/example/pricefold/pricefold/model/Identifier;" (.ref u2) := Sta.start evu2 (Or.inr ⟨hw _ (List.mem_of_getElem? (i := 2) rfl), hw _ (List.mem_of_getElem? (i := 50) rfl)⟩)
  have xu2 : Exa s s.heap u2 "com/example/pricefold/pricefold/model/Identifier" := Exa.start evu2 nw7
  have ou2 : Fld s s.heap u2 "com/example/pricefold/pricefold/model/Identifier" "mostCharacters" "I" (.int (64 : Int32)) := own_fld evu2 nw11
  obtain ⟨aV, evV⟩ := arr_v nw1
  have sV : Sta s s.heap "com/example/pricefold/pricefold/model/Identifier" "$VALUES" "[Lcom/example/pricefold/pricefold/model/Identifier;" (.ref aV) := Sta.start evV (Or.inr ⟨hw _ (List.mem_of_getElem? (i := 2) rfl), hw _ (List.mem_of_getElem? (i := 41) rfl)⟩)
  have EV : Exa s s.heap aV "[Lcom/example/pricefold/pricefold/model/Identifier;" := Exa.start evV nw2
  obtain ⟨cV, AcV⟩ := Arr.start evV nw1
  obtain ⟨lV, zV⟩ := own_len evV AcV nw3
  have VV : Arv s s.heap aV cV.cls (.object "com/example/pricefold/pricefold/model/Identifier") (3 : Int32) [.ref u0, .ref u1, .ref u2] .null := Arv.start hfit AcV lV zV (by decide) rfl ⟨own_elemR evV AcV nw4 evu0, own_elemR evV AcV nw6 evu1, own_elemR evV AcV nw8 evu2, trivial⟩
  obtain ⟨ls, evls⟩ := exa_v nw12
  have sC : Sta s s.heap "com/example/pricefold/pricefold/model/Identifier" "CHARACTERS" "Ljava/util/List;" (.ref ls) := Sta.start evls (Or.inr ⟨hw _ (List.mem_of_getElem? (i := 2) rfl), hw _ (List.mem_of_getElem? (i := 102) rfl)⟩)
  have xls : Exa s s.heap ls "java/util/ImmutableCollections$ListN" := Exa.start evls nw12
  obtain ⟨ea, evea⟩ := arr_v nw13
  have fls : Fld s s.heap ls "java/util/ImmutableCollections$ListN" "elements" "[Ljava/lang/Object;" (.ref ea) := own_fldR evls evea
  obtain ⟨ce, Ace⟩ := Arr.start evea nw13
  obtain ⟨le, ze⟩ := own_len evea Ace nw14
  obtain ⟨q0, evq0⟩ := exa_v nw15
  have xq0 : Exa s s.heap q0 "com/example/pricefold/pricefold/model/Identifier$Span" := Exa.start evq0 nw15
  have fq0_0 := own_fld evq0 nw16
  have fq0_1 := own_fld evq0 nw17
  obtain ⟨q1, evq1⟩ := exa_v nw18
  have xq1 : Exa s s.heap q1 "com/example/pricefold/pricefold/model/Identifier$Span" := Exa.start evq1 nw18
  have fq1_0 := own_fld evq1 nw19
  have fq1_1 := own_fld evq1 nw20
  obtain ⟨q2, evq2⟩ := exa_v nw21
  have xq2 : Exa s s.heap q2 "com/example/pricefold/pricefold/model/Identifier$Span" := Exa.start evq2 nw21
  have fq2_0 := own_fld evq2 nw22
  have fq2_1 := own_fld evq2 nw23
  obtain ⟨q3, evq3⟩ := exa_v nw24
  have xq3 : Exa s s.heap q3 "com/example/pricefold/pricefold/model/Identifier$Span" := Exa.start evq3 nw24
  have fq3_0 := own_fld evq3 nw25
  have fq3_1 := own_fld evq3 nw26
  obtain ⟨q4, evq4⟩ := exa_v nw27
  have xq4 : Exa s s.heap q4 "com/example/pricefold/pricefold/model/Identifier$Span" := Exa.start evq4 nw27
  have fq4_0 := own_fld evq4 nw28
  have fq4_1 := own_fld evq4 nw29
  have Vea : Arv s s.heap ea ce.cls (.object "java/lang/Object") (5 : Int32) [.ref q0, .ref q1, .ref q2, .ref q3, .ref q4] .null := Arv.start hfit Ace le ze (by decide) rfl ⟨(elem_in evq0 evea (Term.int_eval _) Ace.1).2, (elem_in evq1 evea (Term.int_eval _) Ace.1).2, (elem_in evq2 evea (Term.int_eval _) Ace.1).2, (elem_in evq3 evea (Term.int_eval _) Ace.1).2, (elem_in evq4 evea (Term.int_eval _) Ace.1).2, trivial⟩
  obtain ⟨n, o, h1, h2, h3, _, L, rfl, ⟨rfl, N⟩, hq⟩ := rm0 l s _ hw tables_1 i0 u0 u1 u2 aV _ ls ea q0 q1 q2 q3 q4 _ G1 G3 s.heap s.heap.size (Nat.le_refl _) su0 su1 su2 xu0 xu1 xu2 ou0 ou1 ou2 sV VV EV hfit sC xls fls Vea xq0 xq1 xq2 xq3 xq4 fq0_0 fq0_1 fq1_0 fq1_1 fq2_0 fq2_1 fq3_0 fq3_1 fq4_0 fq4_1 O2 P5 (Old.start s) O4 rG3 p e ha hc hk s m _ below hf ((Spec.applies_iff_loose hf).mp happ).1 ⟨rfl, State.Warmed39.refl s, rfl⟩ trivial
  refine ⟨n, _, h1, h2, h3, hpost _ _ _ _ _ _ ⟨Cond.after_iff.mpr rfl, Cond.after_iff.mpr (eq_i res_at (Term.int_eval (1)) rfl), trivial⟩ ⟨hq.1, hq.2.1, (hq.2.2.sift fun y hy => Or.inr (N y hy)).mono (by decide) (by decide)⟩⟩
theorem main_1_1 : Claimed_1_1 := comes_1 fun _ _ _ _ _ _ h hF => ⟨h.1, hF⟩
theorem main_1_2 : Claimed_1_2 := comes_1 fun _ _ _ _ _ _ h hF => ⟨h.2.1, hF⟩
end Jvm.Pilot.@@N@@
namespace Jvm.Pilot.@@N@@
open Jvm Jvm.ClassFile Sem Op Lib Jvm.Free Jvm.Stand Jvm.Pilot.@@N@@.Jvm.D
/-! MADE BY PROGRAM (witnessworld.py) out of the Statement's table words and the real class files: 38 classes; the members and pool entries that the words name. The judged class is class 1, her method 1. -/
namespace start1
open Jvm.ClassFile
def u (s : String) : CpInfo := .utf8 (stringToUtf16 s)
/-- a pool by its gaps: so many unusable entries, then the entry; so many at the end -/
def gap : Nat → List CpInfo → List CpInfo
  | 0, r => r
  | n + 1, r => .unusable :: gap n r
def poolList (es : List (Nat × CpInfo)) (last : Nat) : List CpInfo := es.foldr (fun e r => gap e.1 (e.2 :: r)) (gap last [])
def pool (es : List (Nat × CpInfo)) (last : Nat) : Array CpInfo := ⟨poolList es last⟩
def fileOf (pool : Array CpInfo) (this : Nat) (attrs : Array Attribute := #[]) (ms : Array MethodInfo := #[]) (fl : Nat := 33) (sup : Nat := 0) (ifs : Array Nat := #[]) (fds : Array FieldInfo := #[]) : ClassFile where
  minorVersion := 0
  majorVersion := 65
  constantPool := pool
  accessFlags := fl
  thisClass := this
  superClass := sup
  interfaces := ifs
  fields := fds
  methods := ms
  attributes := attrs
def plain (name : String) (sup : Option ClassId) : Class where
  name := name
  kind := .ordinary
  loader := none
  accessFlags := 33
  super := sup
  interfaces := #[]
  cf := none
  fields := #[]
  methods := #[]
  instanceTypes := #[]
  staticTypes := #[]
  resolved := #[]
  callSites := []
  init := .initialized
  statics := none
  mirror := none

def pool0 : Array CpInfo := pool [(5, u "<init>"), (0, u "()V"), (1, .class_ 10), (1, u "java/lang/Object"), (85, u "clone"), (0, u "()Ljava/lang/Object;")] 26

def k0c0 : Code := { maxStack := 0, maxLocals := 1, code := object_method_1_code, exceptionTable := #[], attributes := #[] }
def k0m0 : Method := { name := "<init>", desc := "()V", sig := { parameters := [], returnType := none }, accessFlags := 1, code := some k0c0 }
def k0m1 : Method := { name := "clone", desc := "()Ljava/lang/Object;", sig := { parameters := [], returnType := some (.object "java/lang/Object") }, accessFlags := 260, code := none }
/-- java/lang/Object -/
def k0 : Class := { plain "java/lang/Object" none with
  accessFlags := 33
  interfaces := #[]
  cf := some (fileOf pool0 8 #[] #[{ accessFlags := 1, nameIndex := 5, descriptorIndex := 6, attributes := #[] }, { accessFlags := 260, nameIndex := 96, descriptorIndex := 97, attributes := #[] }] 33 0 #[] #[])
  fields := #[]
  methods := #[k0m0, k0m1]
  instanceTypes := #[]
  staticTypes := #[]
  resolved := Array.replicate 124 none
  statics := none }

def pool1 : Array CpInfo := pool [(2, .class_ 4), (1, u "java/lang/Object"), (0, u "<init>"), (0, u "()V"), (0, .integer 2147483647), (0, .fieldref 9 10), (0, .class_ 11), (0, .nameAndType 12 13), (0, u "com/example/pricefold/pricefold/model/Identifier"), (0, u "VOUCHER_CODE"), (0, u "Lcom/example/pricefold/pricefold/model/Identifier;"), (0, .fieldref 9 15), (0, .nameAndType 16 13), (0, u "ORDER_ID"), (0, .fieldref 9 18), (0, .nameAndType 19 13), (0, u "CHANNEL"), (0, .class_ 21), (0, u "java/lang/String"), (0, .methodref 20 23), (0, .nameAndType 5 24), (0, u "([C)V"), (0, .methodref 9 26), (0, .nameAndType 27 28), (0, u "longest"), (0, u "()I"), (0, .methodref 20 30), (0, .nameAndType 31 28), (0, u "length"), (0, .methodref 9 33), (0, .nameAndType 34 35), (0, u "matches"), (0, u "(Ljava/lang/String;)Z"), (0, .class_ 37), (0, u "com/example/pricefold/pricefold/model/IdentifierLongestPinLaw"), (2, u "law"), (0, u "(I)Z")] 5

def k1m0 : Method := { name := "<init>", desc := "()V", sig := { parameters := [], returnType := none }, accessFlags := 2, code := none }
def k1c1 : Code := { maxStack := 4, maxLocals := 8, code := code, exceptionTable := #[], attributes := #[] }
def k1m1 : Method := { name := "law", desc := "(I)Z", sig := { parameters := [.int], returnType := some .boolean }, accessFlags := 9, code := some k1c1 }
/-- com/example/pricefold/pricefold/model/IdentifierLongestPinLaw -/
def k1 : Class := { plain "com/example/pricefold/pricefold/model/IdentifierLongestPinLaw" (some 0) with
  accessFlags := 49
  interfaces := #[]
  cf := some (fileOf pool1 36 #[] #[{ accessFlags := 2, nameIndex := 5, descriptorIndex := 6, attributes := #[] }, { accessFlags := 9, nameIndex := 40, descriptorIndex := 41, attributes := #[] }] 49 2 #[] #[])
  fields := #[]
  methods := #[k1m0, k1m1]
  instanceTypes := #[]
  staticTypes := #[]
  resolved := Array.replicate 47 none
  statics := none }

def pool2 : Array CpInfo := pool [(1, .class_ 2), (0, u "java/lang/constant/Constable"), (0, .class_ 4), (0, u "java/lang/Object")] 6

/-- java/lang/constant/Constable -/
def k2 : Class := { plain "java/lang/constant/Constable" (some 0) with
  accessFlags := 1537
  interfaces := #[]
  cf := some (fileOf pool2 1 #[] #[] 1537 3 #[] #[])
  fields := #[]
  methods := #[]
  instanceTypes := #[]
  staticTypes := #[]
  resolved := Array.replicate 11 none
  statics := none }

def pool3 : Array CpInfo := pool [(1, .class_ 2), (0, u "java/lang/Comparable"), (0, .class_ 4), (0, u "java/lang/Object")] 7

/-- java/lang/Comparable -/
def k3 : Class := { plain "java/lang/Comparable" (some 0) with
  accessFlags := 1537
  interfaces := #[]
  cf := some (fileOf pool3 1 #[] #[] 1537 3 #[] #[])
  fields := #[]
  methods := #[]
  instanceTypes := #[]
  staticTypes := #[]
  resolved := Array.replicate 12 none
  statics := none }

def pool4 : Array CpInfo := pool [(1, .class_ 2), (0, u "java/io/Serializable"), (0, .class_ 4), (0, u "java/lang/Object")] 2

/-- java/io/Serializable -/
def k4 : Class := { plain "java/io/Serializable" (some 0) with
  accessFlags := 1537
  interfaces := #[]
  cf := some (fileOf pool4 1 #[] #[] 1537 3 #[] #[])
  fields := #[]
  methods := #[]
  instanceTypes := #[]
  staticTypes := #[]
  resolved := Array.replicate 7 none
  statics := none }

def pool5 : Array CpInfo := pool [(2, .class_ 4), (1, u "java/lang/Enum"), (0, u "name"), (0, u "Ljava/lang/String;"), (2, u "ordinal"), (0, u "I"), (1, .class_ 14), (1, u "java/lang/Object"), (4, u "hash"), (86, .class_ 108), (1, u "java/lang/Enum$EnumDesc"), (2, .class_ 112), (0, u "java/lang/constant/Constable"), (0, .class_ 114), (0, u "java/lang/Comparable"), (0, .class_ 116), (0, u "java/io/Serializable")] 87

/-- java/lang/Enum -/
def k5 : Class := { plain "java/lang/Enum" (some 0) with
  accessFlags := 1057
  interfaces := #[2, 3, 4]
  cf := some (fileOf pool5 2 #[.nestMembers #[106]] #[] 1057 12 #[111, 113, 115] #[{ accessFlags := 18, nameIndex := 5, descriptorIndex := 6, attributes := #[] }, { accessFlags := 18, nameIndex := 9, descriptorIndex := 10, attributes := #[] }, { accessFlags := 2, nameIndex := 19, descriptorIndex := 10, attributes := #[] }])
  fields := #[{ name := "name", type := (.object "java/lang/String"), accessFlags := 18, slot := 0, constantValue := 0 }, { name := "ordinal", type := .int, accessFlags := 18, slot := 1, constantValue := 0 }, { name := "hash", type := .int, accessFlags := 2, slot := 2, constantValue := 0 }]
  methods := #[]
  instanceTypes := #[(.object "java/lang/String"), .int, .int]
  staticTypes := #[]
  resolved := Array.replicate 204 none
  statics := none }

def pool6 : Array CpInfo := pool [(1, .class_ 2), (0, u "com/example/pricefold/pricefold/model/Identifier"), (2, u "VOUCHER_CODE"), (0, u "Lcom/example/pricefold/pricefold/model/Identifier;"), (2, u "ORDER_ID"), (2, u "CHANNEL"), (0, .fieldref 1 14), (0, .nameAndType 15 16), (0, u "$VALUES"), (0, u "[Lcom/example/pricefold/pricefold/model/Identifier;"), (0, .methodref 18 19), (0, .class_ 16), (0, .nameAndType 20 21), (0, u "clone"), (0, u "()Ljava/lang/Object;"), (1, .class_ 25), (1, u "java/lang/Enum"), (6, .fieldref 1 33), (0, .nameAndType 34 35), (0, u "mostCharacters"), (0, u "I"), (0, .methodref 1 37), (0, .nameAndType 38 39), (0, u "values"), (0, u "()[Lcom/example/pricefold/pricefold/model/Identifier;"), (0, .methodref 41 42), (0, .class_ 43), (0, .nameAndType 44 45), (0, u "java/lang/Math"), (0, u "max"), (0, u "(II)I"), (0, .methodref 47 48), (0, .class_ 49), (0, .nameAndType 50 51), (0, u "java/lang/String"), (0, u "length"), (0, u "()I"), (0, .methodref 47 53), (0, .nameAndType 54 55), (0, u "charAt"), (0, u "(I)C"), (0, .methodref 1 57), (0, .nameAndType 58 59), (0, u "isAmongCharacters"), (0, u "(C)Z"), (0, .fieldref 1 61), (0, .nameAndType 62 63), (0, u "CHARACTERS"), (0, u "Ljava/util/List;"), (0, .interfaceMethodref 65 66), (0, .class_ 67), (0, .nameAndType 68 69), (0, u "java/util/List"), (0, u "iterator"), (0, u "()Ljava/util/Iterator;"), (0, .interfaceMethodref 71 72), (0, .class_ 73), (0, .nameAndType 74 75), (0, u "java/util/Iterator"), (0, u "hasNext"), (0, u "()Z"), (0, .interfaceMethodref 71 77), (0, .nameAndType 78 21), (0, u "next"), (0, .class_ 80), (0, u "com/example/pricefold/pricefold/model/Identifier$Span"), (0, .methodref 79 82), (0, .nameAndType 83 59), (0, u "holds"), (45, u "FEWEST_CHARACTERS"), (9, u "longest"), (1, u "matches"), (0, u "(Ljava/lang/String;)Z")] 39

def k6c0 : Code := { maxStack := 1, maxLocals := 0, code := prog_48_method_1_code, exceptionTable := #[], attributes := #[] }
def k6m0 : Method := { name := "values", desc := "()[Lcom/example/pricefold/pricefold/model/Identifier;", sig := { parameters := [], returnType := some (.array (.object "com/example/pricefold/pricefold/model/Identifier")) }, accessFlags := 9, code := some k6c0 }
def k6c1 : Code := { maxStack := 2, maxLocals := 5, code := prog_48_method_4_code, exceptionTable := #[], attributes := #[] }
def k6m1 : Method := { name := "longest", desc := "()I", sig := { parameters := [], returnType := some .int }, accessFlags := 9, code := some k6c1 }
def k6c2 : Code := { maxStack := 2, maxLocals := 3, code := prog_48_method_5_code, exceptionTable := #[], attributes := #[] }
def k6m2 : Method := { name := "matches", desc := "(Ljava/lang/String;)Z", sig := { parameters := [(.object "java/lang/String")], returnType := some .boolean }, accessFlags := 1, code := some k6c2 }
def k6c3 : Code := { maxStack := 2, maxLocals := 3, code := prog_48_method_6_code, exceptionTable := #[], attributes := #[] }
def k6m3 : Method := { name := "isAmongCharacters", desc := "(C)Z", sig := { parameters := [.char], returnType := some .boolean }, accessFlags := 10, code := some k6c3 }
/-- com/example/pricefold/pricefold/model/Identifier -/
def k6 : Class := { plain "com/example/pricefold/pricefold/model/Identifier" (some 5) with
  accessFlags := 16433
  interfaces := #[]
  cf := some (fileOf pool6 1 #[.nestMembers #[79]] #[{ accessFlags := 9, nameIndex := 38, descriptorIndex := 39, attributes := #[] }, { accessFlags := 9, nameIndex := 139, descriptorIndex := 51, attributes := #[] }, { accessFlags := 1, nameIndex := 141, descriptorIndex := 142, attributes := #[] }, { accessFlags := 10, nameIndex := 58, descriptorIndex := 59, attributes := #[] }] 16433 23 #[] #[{ accessFlags := 16409, nameIndex := 5, descriptorIndex := 6, attributes := #[] }, { accessFlags := 16409, nameIndex := 9, descriptorIndex := 6, attributes := #[] }, { accessFlags := 16409, nameIndex := 12, descriptorIndex := 6, attributes := #[] }, { accessFlags := 26, nameIndex := 129, descriptorIndex := 35, attributes := #[] }, { accessFlags := 26, nameIndex := 62, descriptorIndex := 63, attributes := #[] }, { accessFlags := 18, nameIndex := 34, descriptorIndex := 35, attributes := #[] }, { accessFlags := 4122, nameIndex := 15, descriptorIndex := 16, attributes := #[] }])
  fields := #[{ name := "VOUCHER_CODE", type := (.object "com/example/pricefold/pricefold/model/Identifier"), accessFlags := 16409, slot := 0, constantValue := 0 }, { name := "ORDER_ID", type := (.object "com/example/pricefold/pricefold/model/Identifier"), accessFlags := 16409, slot := 1, constantValue := 0 }, { name := "CHANNEL", type := (.object "com/example/pricefold/pricefold/model/Identifier"), accessFlags := 16409, slot := 2, constantValue := 0 }, { name := "FEWEST_CHARACTERS", type := .int, accessFlags := 26, slot := 3, constantValue := 0 }, { name := "CHARACTERS", type := (.object "java/util/List"), accessFlags := 26, slot := 4, constantValue := 0 }, { name := "mostCharacters", type := .int, accessFlags := 18, slot := 3, constantValue := 0 }, { name := "$VALUES", type := (.array (.object "com/example/pricefold/pricefold/model/Identifier")), accessFlags := 4122, slot := 5, constantValue := 0 }]
  methods := #[k6m0, k6m1, k6m2, k6m3]
  instanceTypes := #[(.object "java/lang/String"), .int, .int, .int]
  staticTypes := #[(.object "com/example/pricefold/pricefold/model/Identifier"), (.object "com/example/pricefold/pricefold/model/Identifier"), (.object "com/example/pricefold/pricefold/model/Identifier"), .int, (.object "java/util/List"), (.array (.object "com/example/pricefold/pricefold/model/Identifier"))]
  resolved := Array.replicate 182 none
  statics := some 0 }

def pool7 : Array CpInfo := pool [(2, .class_ 4), (1, u "java/lang/CharSequence"), (42, .class_ 48), (0, u "java/lang/CharSequence$1CodePointIterator"), (10, .class_ 60), (0, u "java/lang/CharSequence$1CharIterator"), (5, .class_ 67), (0, u "java/lang/Object")] 63

/-- java/lang/CharSequence -/
def k7 : Class := { plain "java/lang/CharSequence" (some 0) with
  accessFlags := 1537
  interfaces := #[]
  cf := some (fileOf pool7 2 #[.nestMembers #[47, 59]] #[] 1537 66 #[] #[])
  fields := #[]
  methods := #[]
  instanceTypes := #[]
  staticTypes := #[]
  resolved := Array.replicate 131 none
  statics := none }

def pool8 : Array CpInfo := pool [(1, .class_ 2), (0, u "java/lang/constant/ConstantDesc"), (0, .class_ 4), (0, u "java/lang/Object")] 32

/-- java/lang/constant/ConstantDesc -/
def k8 : Class := { plain "java/lang/constant/ConstantDesc" (some 0) with
  accessFlags := 1537
  interfaces := #[]
  cf := some (fileOf pool8 1 #[] #[] 1537 3 #[] #[])
  fields := #[]
  methods := #[]
  instanceTypes := #[]
  staticTypes := #[]
  resolved := Array.replicate 37 none
  statics := none }

def pool9 : Array CpInfo := pool [(1, .methodref 2 3), (0, .class_ 4), (0, .nameAndType 5 6), (0, u "java/lang/Object"), (0, u "<init>"), (0, u "()V"), (2, .fieldref 10 11), (0, .class_ 12), (0, .nameAndType 13 14), (0, u "java/lang/String"), (0, u "value"), (0, u "[B"), (0, .fieldref 10 16), (0, .nameAndType 17 18), (0, u "coder"), (0, u "B"), (2, u "hash"), (0, u "I"), (2, u "hashIsZero"), (0, u "Z"), (0, .methodref 10 28), (0, .nameAndType 5 29), (0, u "([CIILjava/lang/Void;)V"), (8, .fieldref 10 39), (0, .nameAndType 40 26), (0, u "COMPACT_STRINGS"), (1, .class_ 44), (1, u "java/lang/StringUTF16"), (0, u "compress"), (1, .methodref 42 48), (0, .nameAndType 49 50), (0, u "coderFromArrayLen"), (0, u "([BI)B"), (56, .class_ 109), (1, u "java/lang/StringLatin1"), (32, u "()Z"), (34, .methodref 42 178), (0, .nameAndType 45 179), (0, u "([CII)[B"), (154, u "()I"), (0, .methodref 10 336), (0, .nameAndType 17 337), (0, u "()B"), (25, u "([BI)C"), (27, u "(II)V"), (35, u "(I)C"), (64, .methodref 10 493), (0, .nameAndType 494 142), (0, u "isLatin1"), (0, .methodref 107 496), (0, .nameAndType 497 363), (0, u "charAt"), (3, u "checkIndex"), (5, u "length"), (67, .class_ 576), (0, u "java/lang/CharSequence"), (22, u "CASE_INSENSITIVE_ORDER"), (0, u "Ljava/util/Comparator;"), (409, u "([C)V"), (42, .fieldref 1054 1055), (0, .class_ 1056), (0, .nameAndType 1057 1058), (0, u "jdk/internal/util/Preconditions"), (0, u "SIOOBE_FORMATTER"), (0, u "Ljava/util/function/BiFunction;"), (0, .methodref 1054 1060), (0, .nameAndType 501 1061), (0, u "(IILjava/util/function/BiFunction;)I"), (39, u "serialPersistentFields"), (0, u "[Ljava/io/ObjectStreamField;"), (0, .class_ 1104), (0, u "java/lang/String$CaseInsensitiveComparator"), (1, .class_ 1107), (0, u "java/io/Serializable"), (0, .class_ 1109), (0, u "java/lang/Comparable"), (0, .class_ 1111), (0, u "java/lang/constant/Constable"), (0, .class_ 1113), (0, u "java/lang/constant/ConstantDesc"), (2, u "serialVersionUID"), (0, u "J"), (3, u "REPL"), (0, u "C"), (2, u "LATIN1"), (1, u "UTF16")] 323

def k9m0 : Method := { name := "<init>", desc := "()V", sig := { parameters := [], returnType := none }, accessFlags := 1, code := none }
def k9c1 : Code := { maxStack := 5, maxLocals := 2, code := jdk_42_method_3_code, exceptionTable := #[], attributes := #[] }
def k9m1 : Method := { name := "<init>", desc := "([C)V", sig := { parameters := [(.array .char)], returnType := none }, accessFlags := 1, code := some k9c1 }
def k9c2 : Code := { maxStack := 2, maxLocals := 1, code := jdk_42_method_54_code, exceptionTable := #[], attributes := #[] }
def k9m2 : Method := { name := "length", desc := "()I", sig := { parameters := [], returnType := some .int }, accessFlags := 1, code := some k9c2 }
def k9c3 : Code := { maxStack := 2, maxLocals := 2, code := jdk_42_method_56_code, exceptionTable := #[], attributes := #[] }
def k9m3 : Method := { name := "charAt", desc := "(I)C", sig := { parameters := [.int], returnType := some .char }, accessFlags := 1, code := some k9c3 }
def k9c4 : Code := { maxStack := 4, maxLocals := 6, code := jdk_42_method_149_code, exceptionTable := #[], attributes := #[] }
def k9m4 : Method := { name := "<init>", desc := "([CIILjava/lang/Void;)V", sig := { parameters := [(.array .char), .int, .int, (.object "java/lang/Void")], returnType := none }, accessFlags := 2, code := some k9c4 }
def k9c5 : Code := { maxStack := 1, maxLocals := 1, code := jdk_42_method_152_code, exceptionTable := #[], attributes := #[] }
def k9m5 : Method := { name := "coder", desc := "()B", sig := { parameters := [], returnType := some .byte }, accessFlags := 0, code := some k9c5 }
def k9c6 : Code := { maxStack := 1, maxLocals := 1, code := jdk_42_method_154_code, exceptionTable := #[], attributes := #[] }
def k9m6 : Method := { name := "isLatin1", desc := "()Z", sig := { parameters := [], returnType := some .boolean }, accessFlags := 0, code := some k9c6 }
def k9c7 : Code := { maxStack := 3, maxLocals := 2, code := jdk_42_method_155_code, exceptionTable := #[], attributes := #[] }
def k9m7 : Method := { name := "checkIndex", desc := "(II)V", sig := { parameters := [.int, .int], returnType := none }, accessFlags := 8, code := some k9c7 }
/-- java/lang/String -/
def k9 : Class := { plain "java/lang/String" (some 0) with
  accessFlags := 49
  interfaces := #[4, 3, 7, 2, 8]
  cf := some (fileOf pool9 10 #[.nestMembers #[1103]] #[{ accessFlags := 1, nameIndex := 5, descriptorIndex := 6, attributes := #[] }, { accessFlags := 1, nameIndex := 5, descriptorIndex := 1010, attributes := #[] }, { accessFlags := 1, nameIndex := 507, descriptorIndex := 334, attributes := #[] }, { accessFlags := 1, nameIndex := 497, descriptorIndex := 427, attributes := #[] }, { accessFlags := 2, nameIndex := 5, descriptorIndex := 29, attributes := #[] }, { accessFlags := 0, nameIndex := 17, descriptorIndex := 337, attributes := #[] }, { accessFlags := 0, nameIndex := 494, descriptorIndex := 142, attributes := #[] }, { accessFlags := 8, nameIndex := 501, descriptorIndex := 391, attributes := #[] }] 49 2 #[1106, 1108, 575, 1110, 1112] #[{ accessFlags := 18, nameIndex := 13, descriptorIndex := 14, attributes := #[] }, { accessFlags := 18, nameIndex := 17, descriptorIndex := 18, attributes := #[] }, { accessFlags := 2, nameIndex := 21, descriptorIndex := 22, attributes := #[] }, { accessFlags := 2, nameIndex := 25, descriptorIndex := 26, attributes := #[] }, { accessFlags := 26, nameIndex := 1116, descriptorIndex := 1117, attributes := #[] }, { accessFlags := 24, nameIndex := 40, descriptorIndex := 26, attributes := #[] }, { accessFlags := 26, nameIndex := 1101, descriptorIndex := 1102, attributes := #[] }, { accessFlags := 26, nameIndex := 1121, descriptorIndex := 1122, attributes := #[] }, { accessFlags := 25, nameIndex := 599, descriptorIndex := 600, attributes := #[] }, { accessFlags := 24, nameIndex := 1125, descriptorIndex := 18, attributes := #[] }, { accessFlags := 24, nameIndex := 1127, descriptorIndex := 18, attributes := #[] }])
  fields := #[{ name := "value", type := (.array .byte), accessFlags := 18, slot := 0, constantValue := 0 }, { name := "coder", type := .byte, accessFlags := 18, slot := 1, constantValue := 0 }, { name := "hash", type := .int, accessFlags := 2, slot := 2, constantValue := 0 }, { name := "hashIsZero", type := .boolean, accessFlags := 2, slot := 3, constantValue := 0 }, { name := "serialVersionUID", type := .long, accessFlags := 26, slot := 0, constantValue := 0 }, { name := "COMPACT_STRINGS", type := .boolean, accessFlags := 24, slot := 1, constantValue := 0 }, { name := "serialPersistentFields", type := (.array (.object "java/io/ObjectStreamField")), accessFlags := 26, slot := 2, constantValue := 0 }, { name := "REPL", type := .char, accessFlags := 26, slot := 3, constantValue := 0 }, { name := "CASE_INSENSITIVE_ORDER", type := (.object "java/util/Comparator"), accessFlags := 25, slot := 4, constantValue := 0 }, { name := "LATIN1", type := .byte, accessFlags := 24, slot := 5, constantValue := 0 }, { name := "UTF16", type := .byte, accessFlags := 24, slot := 6, constantValue := 0 }]
  methods := #[k9m0, k9m1, k9m2, k9m3, k9m4, k9m5, k9m6, k9m7]
  instanceTypes := #[(.array .byte), .byte, .int, .boolean]
  staticTypes := #[.long, .boolean, (.array (.object "java/io/ObjectStreamField")), .char, (.object "java/util/Comparator"), .byte, .byte]
  resolved := Array.replicate 1451 none
  statics := some 1 }

def pool10 : Array CpInfo := pool [(6, .class_ 8), (1, u "java/lang/Object"), (0, u "<init>"), (0, u "()V"), (1, .class_ 14), (1, u "java/lang/StringUTF16"), (31, u "$assertionsDisabled"), (0, u "Z"), (13, u "HI_BYTE_SHIFT"), (0, u "I"), (2, u "LO_BYTE_SHIFT"), (49, .methodref 12 116), (0, .nameAndType 117 118), (0, u "compress"), (0, u "([CI[BII)I"), (3, u "([CII)[B"), (138, u "coderFromArrayLen"), (0, u "([BI)B"), (106, .class_ 371), (1, u "java/lang/StringUTF16$LinesSpliterator"), (58, u "MAX_LENGTH"), (196, .class_ 628), (0, u "java/lang/StringUTF16$CodePointsSpliterator"), (0, .class_ 630), (0, u "java/lang/StringUTF16$CharsSpliterator")] 4

def k10m0 : Method := { name := "<init>", desc := "()V", sig := { parameters := [], returnType := none }, accessFlags := 0, code := none }
def k10c1 : Code := { maxStack := 2, maxLocals := 2, code := jdk_52_method_15_code, exceptionTable := #[], attributes := #[] }
def k10m1 : Method := { name := "coderFromArrayLen", desc := "([BI)B", sig := { parameters := [(.array .byte), .int], returnType := some .byte }, accessFlags := 8, code := some k10c1 }
def k10c2 : Code := { maxStack := 5, maxLocals := 6, code := jdk_52_method_16_code, exceptionTable := #[], attributes := #[] }
def k10m2 : Method := { name := "compress", desc := "([CII)[B", sig := { parameters := [(.array .char), .int, .int], returnType := some (.array .byte) }, accessFlags := 9, code := some k10c2 }
def k10c3 : Code := { maxStack := 3, maxLocals := 7, code := jdk_52_method_21_code, exceptionTable := #[], attributes := #[] }
def k10m3 : Method := { name := "compress", desc := "([CI[BII)I", sig := { parameters := [(.array .char), .int, (.array .byte), .int, .int], returnType := some .int }, accessFlags := 9, code := some k10c3 }
/-- java/lang/StringUTF16 -/
def k10 : Class := { plain "java/lang/StringUTF16" (some 0) with
  accessFlags := 48
  interfaces := #[]
  cf := some (fileOf pool10 12 #[.nestMembers #[627, 629, 369]] #[{ accessFlags := 0, nameIndex := 9, descriptorIndex := 10, attributes := #[] }, { accessFlags := 8, nameIndex := 261, descriptorIndex := 262, attributes := #[] }, { accessFlags := 9, nameIndex := 117, descriptorIndex := 122, attributes := #[] }, { accessFlags := 9, nameIndex := 117, descriptorIndex := 118, attributes := #[] }] 48 6 #[] #[{ accessFlags := 26, nameIndex := 61, descriptorIndex := 62, attributes := #[] }, { accessFlags := 26, nameIndex := 65, descriptorIndex := 62, attributes := #[] }, { accessFlags := 24, nameIndex := 430, descriptorIndex := 62, attributes := #[] }, { accessFlags := 4120, nameIndex := 46, descriptorIndex := 47, attributes := #[] }])
  fields := #[{ name := "HI_BYTE_SHIFT", type := .int, accessFlags := 26, slot := 0, constantValue := 0 }, { name := "LO_BYTE_SHIFT", type := .int, accessFlags := 26, slot := 1, constantValue := 0 }, { name := "MAX_LENGTH", type := .int, accessFlags := 24, slot := 2, constantValue := 0 }, { name := "$assertionsDisabled", type := .boolean, accessFlags := 4120, slot := 3, constantValue := 0 }]
  methods := #[k10m0, k10m1, k10m2, k10m3]
  instanceTypes := #[]
  staticTypes := #[.int, .int, .int, .boolean]
  resolved := Array.replicate 635 none
  statics := none }

def pool11 : Array CpInfo := pool [(1, .class_ 2), (0, u "java/lang/Cloneable"), (0, .class_ 4), (0, u "java/lang/Object")] 2

/-- java/lang/Cloneable -/
def k11 : Class := { plain "java/lang/Cloneable" (some 0) with
  accessFlags := 1537
  interfaces := #[]
  cf := some (fileOf pool11 1 #[] #[] 1537 3 #[] #[])
  fields := #[]
  methods := #[]
  instanceTypes := #[]
  staticTypes := #[]
  resolved := Array.replicate 7 none
  statics := none }

def pool12 : Array CpInfo := pool [(1, .class_ 2), (0, u "java/lang/Math"), (1, .class_ 6), (1, u "java/lang/Object"), (0, u "<init>"), (0, u "()V"), (89, .class_ 100), (1, u "java/lang/Math$RandomNumberGeneratorHolder"), (71, u "negativeZeroFloatBits"), (0, u "J"), (2, u "negativeZeroDoubleBits"), (21, u "max"), (46, u "$assertionsDisabled"), (0, u "Z"), (88, u "(II)I"), (2, u "twoToTheDoubleScaleDown"), (0, u "D"), (4, u "twoToTheDoubleScaleUp"), (9, u "E"), (3, u "PI"), (2, u "TAU"), (2, u "DEGREES_TO_RADIANS"), (0, u "RADIANS_TO_DEGREES")] 94

def k12m0 : Method := { name := "<init>", desc := "()V", sig := { parameters := [], returnType := none }, accessFlags := 2, code := none }
def k12c1 : Code := { maxStack := 2, maxLocals := 2, code := jdk_29_method_65_code, exceptionTable := #[], attributes := #[] }
def k12m1 : Method := { name := "max", desc := "(II)I", sig := { parameters := [.int, .int], returnType := some .int }, accessFlags := 9, code := some k12c1 }
/-- java/lang/Math -/
def k12 : Class := { plain "java/lang/Math" (some 0) with
  accessFlags := 49
  interfaces := #[]
  cf := some (fileOf pool12 1 #[.nestMembers #[98]] #[{ accessFlags := 2, nameIndex := 7, descriptorIndex := 8, attributes := #[] }, { accessFlags := 9, nameIndex := 198, descriptorIndex := 335, attributes := #[] }] 49 4 #[] #[{ accessFlags := 25, nameIndex := 354, descriptorIndex := 339, attributes := #[] }, { accessFlags := 25, nameIndex := 358, descriptorIndex := 339, attributes := #[] }, { accessFlags := 25, nameIndex := 361, descriptorIndex := 339, attributes := #[] }, { accessFlags := 26, nameIndex := 364, descriptorIndex := 339, attributes := #[] }, { accessFlags := 26, nameIndex := 365, descriptorIndex := 339, attributes := #[] }, { accessFlags := 26, nameIndex := 172, descriptorIndex := 173, attributes := #[] }, { accessFlags := 26, nameIndex := 176, descriptorIndex := 173, attributes := #[] }, { accessFlags := 8, nameIndex := 344, descriptorIndex := 339, attributes := #[] }, { accessFlags := 8, nameIndex := 338, descriptorIndex := 339, attributes := #[] }, { accessFlags := 4120, nameIndex := 245, descriptorIndex := 246, attributes := #[] }])
  fields := #[{ name := "E", type := .double, accessFlags := 25, slot := 0, constantValue := 0 }, { name := "PI", type := .double, accessFlags := 25, slot := 1, constantValue := 0 }, { name := "TAU", type := .double, accessFlags := 25, slot := 2, constantValue := 0 }, { name := "DEGREES_TO_RADIANS", type := .double, accessFlags := 26, slot := 3, constantValue := 0 }, { name := "RADIANS_TO_DEGREES", type := .double, accessFlags := 26, slot := 4, constantValue := 0 }, { name := "negativeZeroFloatBits", type := .long, accessFlags := 26, slot := 5, constantValue := 0 }, { name := "negativeZeroDoubleBits", type := .long, accessFlags := 26, slot := 6, constantValue := 0 }, { name := "twoToTheDoubleScaleUp", type := .double, accessFlags := 8, slot := 7, constantValue := 0 }, { name := "twoToTheDoubleScaleDown", type := .double, accessFlags := 8, slot := 8, constantValue := 0 }, { name := "$assertionsDisabled", type := .boolean, accessFlags := 4120, slot := 9, constantValue := 0 }]
  methods := #[k12m0, k12m1]
  instanceTypes := #[]
  staticTypes := #[.double, .double, .double, .double, .double, .long, .long, .double, .double, .boolean]
  resolved := Array.replicate 460 none
  statics := none }

def pool13 : Array CpInfo := pool [(1, .class_ 2), (0, u "java/lang/String"), (1, .class_ 6), (1, u "java/lang/Object"), (0, u "<init>"), (0, u "()V"), (0, .methodref 1 10), (0, .nameAndType 11 12), (0, u "checkIndex"), (0, u "(II)V"), (1, .class_ 16), (1, u "java/lang/StringLatin1"), (36, u "([BI)C"), (67, u "$assertionsDisabled"), (0, u "Z"), (98, .class_ 223), (1, u "java/lang/StringLatin1$LinesSpliterator"), (28, u "charAt"), (137, .class_ 391), (0, u "java/lang/StringLatin1$CharsSpliterator")] 3

def k13m0 : Method := { name := "<init>", desc := "()V", sig := { parameters := [], returnType := none }, accessFlags := 0, code := none }
def k13c1 : Code := { maxStack := 2, maxLocals := 2, code := jdk_43_method_2_code, exceptionTable := #[], attributes := #[] }
def k13m1 : Method := { name := "charAt", desc := "([BI)C", sig := { parameters := [(.array .byte), .int], returnType := some .char }, accessFlags := 9, code := some k13c1 }
/-- java/lang/StringLatin1 -/
def k13 : Class := { plain "java/lang/StringLatin1" (some 0) with
  accessFlags := 48
  interfaces := #[]
  cf := some (fileOf pool13 14 #[.nestMembers #[390, 221]] #[{ accessFlags := 0, nameIndex := 7, descriptorIndex := 8, attributes := #[] }, { accessFlags := 9, nameIndex := 252, descriptorIndex := 53, attributes := #[] }] 48 4 #[] #[{ accessFlags := 4120, nameIndex := 121, descriptorIndex := 122, attributes := #[] }])
  fields := #[{ name := "$assertionsDisabled", type := .boolean, accessFlags := 4120, slot := 0, constantValue := 0 }]
  methods := #[k13m0, k13m1]
  instanceTypes := #[]
  staticTypes := #[.boolean]
  resolved := Array.replicate 395 none
  statics := none }

def pool14 : Array CpInfo := pool [(2, .class_ 4), (1, u "java/lang/Object"), (0, u "<init>"), (0, u "()V"), (17, .class_ 26), (1, u "jdk/internal/util/Preconditions"), (6, u "checkIndex"), (21, .class_ 56), (0, u "jdk/internal/util/Preconditions$4"), (57, .class_ 115), (0, u "jdk/internal/util/Preconditions$1"), (7, u "SIOOBE_FORMATTER"), (0, u "Ljava/util/function/BiFunction;"), (0, .class_ 126), (0, u "jdk/internal/util/Preconditions$2"), (3, u "AIOOBE_FORMATTER"), (0, .class_ 132), (0, u "jdk/internal/util/Preconditions$3"), (3, u "IOOBE_FORMATTER"), (41, u "(IILjava/util/function/BiFunction;)I")] 15

def k14m0 : Method := { name := "<init>", desc := "()V", sig := { parameters := [], returnType := none }, accessFlags := 1, code := none }
def k14c1 : Code := { maxStack := 3, maxLocals := 3, code := jdk_41_method_11_code, exceptionTable := #[], attributes := #[] }
def k14m1 : Method := { name := "checkIndex", desc := "(IILjava/util/function/BiFunction;)I", sig := { parameters := [.int, .int, (.object "java/util/function/BiFunction")], returnType := some .int }, accessFlags := 9, code := some k14c1 }
/-- jdk/internal/util/Preconditions -/
def k14 : Class := { plain "jdk/internal/util/Preconditions" (some 0) with
  accessFlags := 33
  interfaces := #[]
  cf := some (fileOf pool14 24 #[.nestMembers #[55, 131, 125, 114]] #[{ accessFlags := 1, nameIndex := 5, descriptorIndex := 6, attributes := #[] }, { accessFlags := 9, nameIndex := 33, descriptorIndex := 178, attributes := #[] }] 33 2 #[] #[{ accessFlags := 25, nameIndex := 123, descriptorIndex := 124, attributes := #[] }, { accessFlags := 25, nameIndex := 130, descriptorIndex := 124, attributes := #[] }, { accessFlags := 25, nameIndex := 136, descriptorIndex := 124, attributes := #[] }])
  fields := #[{ name := "SIOOBE_FORMATTER", type := (.object "java/util/function/BiFunction"), accessFlags := 25, slot := 0, constantValue := 0 }, { name := "AIOOBE_FORMATTER", type := (.object "java/util/function/BiFunction"), accessFlags := 25, slot := 1, constantValue := 0 }, { name := "IOOBE_FORMATTER", type := (.object "java/util/function/BiFunction"), accessFlags := 25, slot := 2, constantValue := 0 }]
  methods := #[k14m0, k14m1]
  instanceTypes := #[]
  staticTypes := #[(.object "java/util/function/BiFunction"), (.object "java/util/function/BiFunction"), (.object "java/util/function/BiFunction")]
  resolved := Array.replicate 194 none
  statics := some 2 }

def pool15 : Array CpInfo := pool [(8, .class_ 10), (1, u "java/lang/Iterable"), (24, .class_ 36), (0, u "java/lang/Object")] 25

/-- java/lang/Iterable -/
def k15 : Class := { plain "java/lang/Iterable" (some 0) with
  accessFlags := 1537
  interfaces := #[]
  cf := some (fileOf pool15 8 #[] #[] 1537 35 #[] #[])
  fields := #[]
  methods := #[]
  instanceTypes := #[]
  staticTypes := #[]
  resolved := Array.replicate 62 none
  statics := none }

def pool16 : Array CpInfo := pool [(10, .class_ 12), (1, u "java/util/Collection"), (47, .class_ 61), (0, u "java/lang/Object"), (0, .class_ 63), (0, u "java/lang/Iterable")] 51

/-- java/util/Collection -/
def k16 : Class := { plain "java/util/Collection" (some 0) with
  accessFlags := 1537
  interfaces := #[15]
  cf := some (fileOf pool16 10 #[] #[] 1537 60 #[62] #[])
  fields := #[]
  methods := #[]
  instanceTypes := #[]
  staticTypes := #[]
  resolved := Array.replicate 115 none
  statics := none }

def pool17 : Array CpInfo := pool [(8, .class_ 10), (1, u "java/util/SequencedCollection"), (15, .class_ 27), (0, u "java/lang/Object"), (0, .class_ 29), (0, u "java/util/Collection")] 27

/-- java/util/SequencedCollection -/
def k17 : Class := { plain "java/util/SequencedCollection" (some 0) with
  accessFlags := 1537
  interfaces := #[16]
  cf := some (fileOf pool17 8 #[] #[] 1537 26 #[28] #[])
  fields := #[]
  methods := #[]
  instanceTypes := #[]
  staticTypes := #[]
  resolved := Array.replicate 57 none
  statics := none }

def pool18 : Array CpInfo := pool [(8, .class_ 10), (1, u "java/util/List"), (64, u "get"), (0, u "(I)Ljava/lang/Object;"), (26, .class_ 104), (0, u "java/lang/Object"), (15, .class_ 121), (0, u "java/util/SequencedCollection"), (1, u "iterator"), (0, u "()Ljava/util/Iterator;")] 126

def k18m0 : Method := { name := "iterator", desc := "()Ljava/util/Iterator;", sig := { parameters := [], returnType := some (.object "java/util/Iterator") }, accessFlags := 1025, code := none }
def k18m1 : Method := { name := "get", desc := "(I)Ljava/lang/Object;", sig := { parameters := [.int], returnType := some (.object "java/lang/Object") }, accessFlags := 1025, code := none }
/-- java/util/List -/
def k18 : Class := { plain "java/util/List" (some 0) with
  accessFlags := 1537
  interfaces := #[17]
  cf := some (fileOf pool18 8 #[] #[{ accessFlags := 1025, nameIndex := 123, descriptorIndex := 124, attributes := #[] }, { accessFlags := 1025, nameIndex := 75, descriptorIndex := 76, attributes := #[] }] 1537 103 #[120] #[])
  fields := #[]
  methods := #[k18m0, k18m1]
  instanceTypes := #[]
  staticTypes := #[]
  resolved := Array.replicate 251 none
  statics := none }

def pool19 : Array CpInfo := pool [(2, .class_ 4), (1, u "java/lang/Object"), (0, u "<init>"), (0, u "()V"), (1, .class_ 10), (1, u "java/util/AbstractCollection"), (0, u "size"), (0, u "()I"), (64, .class_ 78), (0, u "java/util/Collection")] 81

def k19m0 : Method := { name := "<init>", desc := "()V", sig := { parameters := [], returnType := none }, accessFlags := 4, code := none }
def k19m1 : Method := { name := "size", desc := "()I", sig := { parameters := [], returnType := some .int }, accessFlags := 1025, code := none }
/-- java/util/AbstractCollection -/
def k19 : Class := { plain "java/util/AbstractCollection" (some 0) with
  accessFlags := 1057
  interfaces := #[16]
  cf := some (fileOf pool19 8 #[] #[{ accessFlags := 4, nameIndex := 5, descriptorIndex := 6, attributes := #[] }, { accessFlags := 1025, nameIndex := 11, descriptorIndex := 12, attributes := #[] }] 1057 2 #[77] #[])
  fields := #[]
  methods := #[k19m0, k19m1]
  instanceTypes := #[]
  staticTypes := #[]
  resolved := Array.replicate 160 none
  statics := none }

def pool20 : Array CpInfo := pool [(2, .class_ 4), (1, u "java/util/AbstractCollection"), (0, u "<init>"), (0, u "()V"), (1, .class_ 10), (1, u "java/util/ImmutableCollections"), (2, .class_ 14), (0, u "java/util/ImmutableCollections$AbstractImmutableCollection")] 41

def k20m0 : Method := { name := "<init>", desc := "()V", sig := { parameters := [], returnType := none }, accessFlags := 0, code := none }
/-- java/util/ImmutableCollections$AbstractImmutableCollection -/
def k20 : Class := { plain "java/util/ImmutableCollections$AbstractImmutableCollection" (some 19) with
  accessFlags := 1056
  interfaces := #[]
  cf := some (fileOf pool20 13 #[.nestHost 8] #[{ accessFlags := 0, nameIndex := 5, descriptorIndex := 6, attributes := #[] }] 1056 2 #[] #[])
  fields := #[]
  methods := #[k20m0]
  instanceTypes := #[]
  staticTypes := #[]
  resolved := Array.replicate 56 none
  statics := none }

def pool21 : Array CpInfo := pool [(1, .class_ 2), (0, u "java/util/RandomAccess"), (0, .class_ 4), (0, u "java/lang/Object")] 2

/-- java/util/RandomAccess -/
def k21 : Class := { plain "java/util/RandomAccess" (some 0) with
  accessFlags := 1537
  interfaces := #[]
  cf := some (fileOf pool21 1 #[] #[] 1537 3 #[] #[])
  fields := #[]
  methods := #[]
  instanceTypes := #[]
  staticTypes := #[]
  resolved := Array.replicate 7 none
  statics := none }

def pool22 : Array CpInfo := pool [(2, .class_ 4), (1, u "java/util/ImmutableCollections$AbstractImmutableCollection"), (0, u "<init>"), (0, u "()V"), (1, .class_ 10), (1, u "java/util/ImmutableCollections"), (2, .methodref 14 15), (0, .class_ 16), (0, .nameAndType 17 18), (0, u "java/util/ImmutableCollections$AbstractImmutableList"), (0, u "size"), (0, u "()I"), (42, .class_ 62), (0, u "java/util/ImmutableCollections$ListItr"), (0, .methodref 61 64), (0, .nameAndType 5 65), (0, u "(Ljava/util/List;I)V"), (11, .class_ 78), (0, u "java/util/List"), (2, u "iterator"), (0, u "()Ljava/util/Iterator;"), (41, .class_ 125), (0, u "java/util/RandomAccess")] 70

def k22m0 : Method := { name := "<init>", desc := "()V", sig := { parameters := [], returnType := none }, accessFlags := 0, code := none }
def k22c1 : Code := { maxStack := 4, maxLocals := 1, code := jdk_46_method_10_code, exceptionTable := #[], attributes := #[] }
def k22m1 : Method := { name := "iterator", desc := "()Ljava/util/Iterator;", sig := { parameters := [], returnType := some (.object "java/util/Iterator") }, accessFlags := 1, code := some k22c1 }
/-- java/util/ImmutableCollections$AbstractImmutableList -/
def k22 : Class := { plain "java/util/ImmutableCollections$AbstractImmutableList" (some 20) with
  accessFlags := 1056
  interfaces := #[18, 21]
  cf := some (fileOf pool22 14 #[.nestHost 8] #[{ accessFlags := 0, nameIndex := 5, descriptorIndex := 6, attributes := #[] }, { accessFlags := 1, nameIndex := 81, descriptorIndex := 82, attributes := #[] }] 1056 2 #[77, 124] #[])
  fields := #[]
  methods := #[k22m0, k22m1]
  instanceTypes := #[]
  staticTypes := #[]
  resolved := Array.replicate 196 none
  statics := none }

def pool23 : Array CpInfo := pool [(2, .class_ 4), (1, u "java/util/ImmutableCollections$AbstractImmutableList"), (2, .fieldref 8 9), (0, .class_ 10), (0, .nameAndType 11 12), (0, u "java/util/ImmutableCollections$ListN"), (0, u "elements"), (0, u "[Ljava/lang/Object;"), (2, u "allowNulls"), (0, u "Z"), (42, .class_ 60), (0, u "java/io/Serializable"), (16, u "size"), (0, u "()I"), (0, u "get"), (0, u "(I)Ljava/lang/Object;"), (33, .class_ 115), (0, u "java/util/ImmutableCollections")] 3

def k23c0 : Code := { maxStack := 1, maxLocals := 1, code := jdk_45_method_3_code, exceptionTable := #[], attributes := #[] }
def k23m0 : Method := { name := "size", desc := "()I", sig := { parameters := [], returnType := some .int }, accessFlags := 1, code := some k23c0 }
def k23c1 : Code := { maxStack := 2, maxLocals := 2, code := jdk_45_method_4_code, exceptionTable := #[], attributes := #[] }
def k23m1 : Method := { name := "get", desc := "(I)Ljava/lang/Object;", sig := { parameters := [.int], returnType := some (.object "java/lang/Object") }, accessFlags := 1, code := some k23c1 }
/-- java/util/ImmutableCollections$ListN -/
def k23 : Class := { plain "java/util/ImmutableCollections$ListN" (some 22) with
  accessFlags := 48
  interfaces := #[4]
  cf := some (fileOf pool23 8 #[.nestHost 114] #[{ accessFlags := 1, nameIndex := 77, descriptorIndex := 78, attributes := #[] }, { accessFlags := 1, nameIndex := 79, descriptorIndex := 80, attributes := #[] }] 48 2 #[59] #[{ accessFlags := 18, nameIndex := 11, descriptorIndex := 12, attributes := #[] }, { accessFlags := 18, nameIndex := 15, descriptorIndex := 16, attributes := #[] }])
  fields := #[{ name := "elements", type := (.array (.object "java/lang/Object")), accessFlags := 18, slot := 0, constantValue := 0 }, { name := "allowNulls", type := .boolean, accessFlags := 18, slot := 1, constantValue := 0 }]
  methods := #[k23m0, k23m1]
  instanceTypes := #[(.array (.object "java/lang/Object")), .boolean]
  staticTypes := #[]
  resolved := Array.replicate 119 none
  statics := none }

def pool24 : Array CpInfo := pool [(16, .class_ 18), (1, u "java/util/Iterator"), (0, u "hasNext"), (0, u "()Z"), (2, u "next"), (0, u "()Ljava/lang/Object;"), (6, .class_ 32), (0, u "java/lang/Object")] 20

def k24m0 : Method := { name := "hasNext", desc := "()Z", sig := { parameters := [], returnType := some .boolean }, accessFlags := 1025, code := none }
def k24m1 : Method := { name := "next", desc := "()Ljava/lang/Object;", sig := { parameters := [], returnType := some (.object "java/lang/Object") }, accessFlags := 1025, code := none }
/-- java/util/Iterator -/
def k24 : Class := { plain "java/util/Iterator" (some 0) with
  accessFlags := 1537
  interfaces := #[]
  cf := some (fileOf pool24 16 #[] #[{ accessFlags := 1025, nameIndex := 19, descriptorIndex := 20, attributes := #[] }, { accessFlags := 1025, nameIndex := 23, descriptorIndex := 24, attributes := #[] }] 1537 31 #[] #[])
  fields := #[]
  methods := #[k24m0, k24m1]
  instanceTypes := #[]
  staticTypes := #[]
  resolved := Array.replicate 53 none
  statics := none }

def pool25 : Array CpInfo := pool [(1, .class_ 2), (0, u "java/util/ListIterator"), (0, .class_ 4), (0, u "java/lang/Object"), (0, .class_ 6), (0, u "java/util/Iterator")] 20

/-- java/util/ListIterator -/
def k25 : Class := { plain "java/util/ListIterator" (some 0) with
  accessFlags := 1537
  interfaces := #[24]
  cf := some (fileOf pool25 1 #[] #[] 1537 3 #[5] #[])
  fields := #[]
  methods := #[]
  instanceTypes := #[]
  staticTypes := #[]
  resolved := Array.replicate 27 none
  statics := none }

def pool26 : Array CpInfo := pool [(1, .methodref 2 3), (0, .class_ 4), (0, .nameAndType 5 6), (0, u "java/lang/Object"), (0, u "<init>"), (0, u "()V"), (0, .fieldref 8 9), (0, .class_ 10), (0, .nameAndType 11 12), (0, u "java/util/ImmutableCollections$ListItr"), (0, u "list"), (0, u "Ljava/util/List;"), (0, .fieldref 8 14), (0, .nameAndType 15 16), (0, u "size"), (0, u "I"), (0, .fieldref 8 18), (0, .nameAndType 19 16), (0, u "cursor"), (0, .fieldref 8 21), (0, .nameAndType 22 23), (0, u "isListIterator"), (0, u "Z"), (0, .interfaceMethodref 25 26), (0, .class_ 27), (0, .nameAndType 28 29), (0, u "java/util/List"), (0, u "get"), (0, u "(I)Ljava/lang/Object;"), (6, .class_ 38), (1, u "java/util/ImmutableCollections"), (2, .class_ 42), (0, u "java/util/ListIterator"), (4, u "(Ljava/util/List;I)V"), (11, u "hasNext"), (0, u "()Z"), (1, u "next"), (0, u "()Ljava/lang/Object;")] 22

def k26c0 : Code := { maxStack := 2, maxLocals := 3, code := jdk_53_method_1_code, exceptionTable := #[], attributes := #[] }
def k26m0 : Method := { name := "<init>", desc := "(Ljava/util/List;I)V", sig := { parameters := [(.object "java/util/List"), .int], returnType := none }, accessFlags := 0, code := some k26c0 }
def k26c1 : Code := { maxStack := 2, maxLocals := 1, code := jdk_53_method_3_code, exceptionTable := #[], attributes := #[] }
def k26m1 : Method := { name := "hasNext", desc := "()Z", sig := { parameters := [], returnType := some .boolean }, accessFlags := 1, code := some k26c1 }
def k26c2 : Code := { maxStack := 3, maxLocals := 3, code := jdk_53_method_4_code, exceptionTable := #[{ startPc := 0, endPc := 24, handlerPc := 25, catchType := 30 }], attributes := #[] }
def k26m2 : Method := { name := "next", desc := "()Ljava/lang/Object;", sig := { parameters := [], returnType := some (.object "java/lang/Object") }, accessFlags := 1, code := some k26c2 }
/-- java/util/ImmutableCollections$ListItr -/
def k26 : Class := { plain "java/util/ImmutableCollections$ListItr" (some 0) with
  accessFlags := 48
  interfaces := #[25]
  cf := some (fileOf pool26 8 #[.nestHost 36] #[{ accessFlags := 0, nameIndex := 5, descriptorIndex := 47, attributes := #[] }, { accessFlags := 1, nameIndex := 59, descriptorIndex := 60, attributes := #[] }, { accessFlags := 1, nameIndex := 62, descriptorIndex := 63, attributes := #[] }] 48 2 #[41] #[{ accessFlags := 18, nameIndex := 11, descriptorIndex := 12, attributes := #[] }, { accessFlags := 18, nameIndex := 15, descriptorIndex := 16, attributes := #[] }, { accessFlags := 18, nameIndex := 22, descriptorIndex := 23, attributes := #[] }, { accessFlags := 2, nameIndex := 19, descriptorIndex := 16, attributes := #[] }])
  fields := #[{ name := "list", type := (.object "java/util/List"), accessFlags := 18, slot := 0, constantValue := 0 }, { name := "size", type := .int, accessFlags := 18, slot := 1, constantValue := 0 }, { name := "isListIterator", type := .boolean, accessFlags := 18, slot := 2, constantValue := 0 }, { name := "cursor", type := .int, accessFlags := 2, slot := 3, constantValue := 0 }]
  methods := #[k26m0, k26m1, k26m2]
  instanceTypes := #[(.object "java/util/List"), .int, .boolean, .int]
  staticTypes := #[]
  resolved := Array.replicate 86 none
  statics := none }

def pool27 : Array CpInfo := pool [(2, .class_ 4), (1, u "java/lang/Object"), (0, u "<init>"), (0, u "()V"), (0, .class_ 8), (0, u "java/lang/Record")] 13

def k27m0 : Method := { name := "<init>", desc := "()V", sig := { parameters := [], returnType := none }, accessFlags := 4, code := none }
/-- java/lang/Record -/
def k27 : Class := { plain "java/lang/Record" (some 0) with
  accessFlags := 1057
  interfaces := #[]
  cf := some (fileOf pool27 7 #[] #[{ accessFlags := 4, nameIndex := 5, descriptorIndex := 6, attributes := #[] }] 1057 2 #[] #[])
  fields := #[]
  methods := #[k27m0]
  instanceTypes := #[]
  staticTypes := #[]
  resolved := Array.replicate 22 none
  statics := none }

def pool28 : Array CpInfo := pool [(2, .class_ 4), (1, u "java/lang/Record"), (2, .fieldref 8 9), (0, .class_ 10), (0, .nameAndType 11 12), (0, u "com/example/pricefold/pricefold/model/Identifier$Span"), (0, u "first"), (0, u "C"), (0, .fieldref 8 14), (0, .nameAndType 15 12), (0, u "last"), (23, u "holds"), (0, u "(C)Z"), (11, .class_ 53), (0, u "com/example/pricefold/pricefold/model/Identifier")] 30

def k28c0 : Code := { maxStack := 2, maxLocals := 2, code := prog_49_method_2_code, exceptionTable := #[], attributes := #[] }
def k28m0 : Method := { name := "holds", desc := "(C)Z", sig := { parameters := [.char], returnType := some .boolean }, accessFlags := 0, code := some k28c0 }
/-- com/example/pricefold/pricefold/model/Identifier$Span -/
def k28 : Class := { plain "com/example/pricefold/pricefold/model/Identifier$Span" (some 27) with
  accessFlags := 48
  interfaces := #[]
  cf := some (fileOf pool28 8 #[.nestHost 52] #[{ accessFlags := 0, nameIndex := 39, descriptorIndex := 40, attributes := #[] }] 48 2 #[] #[{ accessFlags := 18, nameIndex := 11, descriptorIndex := 12, attributes := #[] }, { accessFlags := 18, nameIndex := 15, descriptorIndex := 12, attributes := #[] }])
  fields := #[{ name := "first", type := .char, accessFlags := 18, slot := 0, constantValue := 0 }, { name := "last", type := .char, accessFlags := 18, slot := 1, constantValue := 0 }]
  methods := #[k28m0]
  instanceTypes := #[.char, .char]
  staticTypes := #[]
  resolved := Array.replicate 84 none
  statics := none }

def pool29 : Array CpInfo := pool [(9, u "<init>"), (6, .class_ 18), (1, u "java/lang/Object"), (0, u "()V"), (1, .class_ 23), (1, u "jdk/internal/util/ArraysSupport"), (0, u "LOG2_ARRAY_LONG_INDEX_SCALE"), (0, u "I"), (2, u "U"), (0, u "Ljdk/internal/misc/Unsafe;"), (8, u "BIG_ENDIAN"), (0, u "Z"), (8, u "LOG2_BYTE_BIT_SIZE"), (4, u "LOG2_ARRAY_INT_INDEX_SCALE"), (54, u "JLA"), (0, u "Ljdk/internal/access/JavaLangAccess;"), (11, u "LOG2_ARRAY_BOOLEAN_INDEX_SCALE"), (9, u "LOG2_ARRAY_BYTE_INDEX_SCALE"), (5, u "LOG2_ARRAY_CHAR_INDEX_SCALE"), (5, u "LOG2_ARRAY_SHORT_INDEX_SCALE"), (18, u "LOG2_ARRAY_FLOAT_INDEX_SCALE"), (24, u "LOG2_ARRAY_DOUBLE_INDEX_SCALE"), (89, u "T_BOOLEAN"), (2, u "T_CHAR"), (1, u "T_FLOAT"), (1, u "T_DOUBLE"), (1, u "T_BYTE"), (1, u "T_SHORT"), (1, u "T_INT"), (1, u "T_LONG"), (1, u "SOFT_MAX_ARRAY_LENGTH")] 83

def k29m0 : Method := { name := "<init>", desc := "()V", sig := { parameters := [], returnType := none }, accessFlags := 2, code := none }
/-- jdk/internal/util/ArraysSupport -/
def k29 : Class := { plain "jdk/internal/util/ArraysSupport" (some 0) with
  accessFlags := 33
  interfaces := #[]
  cf := some (fileOf pool29 21 #[] #[{ accessFlags := 2, nameIndex := 9, descriptorIndex := 19, attributes := #[] }] 33 16 #[] #[{ accessFlags := 24, nameIndex := 28, descriptorIndex := 29, attributes := #[] }, { accessFlags := 26, nameIndex := 38, descriptorIndex := 39, attributes := #[] }, { accessFlags := 25, nameIndex := 121, descriptorIndex := 25, attributes := #[] }, { accessFlags := 25, nameIndex := 131, descriptorIndex := 25, attributes := #[] }, { accessFlags := 25, nameIndex := 137, descriptorIndex := 25, attributes := #[] }, { accessFlags := 25, nameIndex := 143, descriptorIndex := 25, attributes := #[] }, { accessFlags := 25, nameIndex := 53, descriptorIndex := 25, attributes := #[] }, { accessFlags := 25, nameIndex := 24, descriptorIndex := 25, attributes := #[] }, { accessFlags := 25, nameIndex := 162, descriptorIndex := 25, attributes := #[] }, { accessFlags := 25, nameIndex := 187, descriptorIndex := 25, attributes := #[] }, { accessFlags := 26, nameIndex := 48, descriptorIndex := 25, attributes := #[] }, { accessFlags := 25, nameIndex := 277, descriptorIndex := 25, attributes := #[] }, { accessFlags := 25, nameIndex := 280, descriptorIndex := 25, attributes := #[] }, { accessFlags := 25, nameIndex := 282, descriptorIndex := 25, attributes := #[] }, { accessFlags := 25, nameIndex := 284, descriptorIndex := 25, attributes := #[] }, { accessFlags := 25, nameIndex := 286, descriptorIndex := 25, attributes := #[] }, { accessFlags := 25, nameIndex := 288, descriptorIndex := 25, attributes := #[] }, { accessFlags := 25, nameIndex := 290, descriptorIndex := 25, attributes := #[] }, { accessFlags := 25, nameIndex := 292, descriptorIndex := 25, attributes := #[] }, { accessFlags := 26, nameIndex := 108, descriptorIndex := 109, attributes := #[] }, { accessFlags := 25, nameIndex := 294, descriptorIndex := 25, attributes := #[] }])
  fields := #[{ name := "U", type := (.object "jdk/internal/misc/Unsafe"), accessFlags := 24, slot := 0, constantValue := 0 }, { name := "BIG_ENDIAN", type := .boolean, accessFlags := 26, slot := 1, constantValue := 0 }, { name := "LOG2_ARRAY_BOOLEAN_INDEX_SCALE", type := .int, accessFlags := 25, slot := 2, constantValue := 0 }, { name := "LOG2_ARRAY_BYTE_INDEX_SCALE", type := .int, accessFlags := 25, slot := 3, constantValue := 0 }, { name := "LOG2_ARRAY_CHAR_INDEX_SCALE", type := .int, accessFlags := 25, slot := 4, constantValue := 0 }, { name := "LOG2_ARRAY_SHORT_INDEX_SCALE", type := .int, accessFlags := 25, slot := 5, constantValue := 0 }, { name := "LOG2_ARRAY_INT_INDEX_SCALE", type := .int, accessFlags := 25, slot := 6, constantValue := 0 }, { name := "LOG2_ARRAY_LONG_INDEX_SCALE", type := .int, accessFlags := 25, slot := 7, constantValue := 0 }, { name := "LOG2_ARRAY_FLOAT_INDEX_SCALE", type := .int, accessFlags := 25, slot := 8, constantValue := 0 }, { name := "LOG2_ARRAY_DOUBLE_INDEX_SCALE", type := .int, accessFlags := 25, slot := 9, constantValue := 0 }, { name := "LOG2_BYTE_BIT_SIZE", type := .int, accessFlags := 26, slot := 10, constantValue := 0 }, { name := "T_BOOLEAN", type := .int, accessFlags := 25, slot := 11, constantValue := 0 }, { name := "T_CHAR", type := .int, accessFlags := 25, slot := 12, constantValue := 0 }, { name := "T_FLOAT", type := .int, accessFlags := 25, slot := 13, constantValue := 0 }, { name := "T_DOUBLE", type := .int, accessFlags := 25, slot := 14, constantValue := 0 }, { name := "T_BYTE", type := .int, accessFlags := 25, slot := 15, constantValue := 0 }, { name := "T_SHORT", type := .int, accessFlags := 25, slot := 16, constantValue := 0 }, { name := "T_INT", type := .int, accessFlags := 25, slot := 17, constantValue := 0 }, { name := "T_LONG", type := .int, accessFlags := 25, slot := 18, constantValue := 0 }, { name := "JLA", type := (.object "jdk/internal/access/JavaLangAccess"), accessFlags := 26, slot := 19, constantValue := 0 }, { name := "SOFT_MAX_ARRAY_LENGTH", type := .int, accessFlags := 25, slot := 20, constantValue := 0 }]
  methods := #[k29m0]
  instanceTypes := #[]
  staticTypes := #[(.object "jdk/internal/misc/Unsafe"), .boolean, .int, .int, .int, .int, .int, .int, .int, .int, .int, .int, .int, .int, .int, .int, .int, .int, .int, (.object "jdk/internal/access/JavaLangAccess"), .int]
  resolved := Array.replicate 378 none
  statics := none }

/-- the primitive byte -/
def k30 : Class := { plain "byte" none with kind := .primitive 'B', accessFlags := 0x411 }
/-- [B -/
def k31 : Class := { plain "[B" (some 0) with kind := .array 30 .byte, interfaces := #[11, 4], accessFlags := 1041 }

/-- the primitive char -/
def k32 : Class := { plain "char" none with kind := .primitive 'C', accessFlags := 0x411 }
/-- [C -/
def k33 : Class := { plain "[C" (some 0) with kind := .array 32 .char, interfaces := #[11, 4], accessFlags := 1041 }

/-- the primitive int -/
def k34 : Class := { plain "int" none with kind := .primitive 'I', accessFlags := 0x411 }
/-- [I -/
def k35 : Class := { plain "[I" (some 0) with kind := .array 34 .int, interfaces := #[11, 4], accessFlags := 1041 }

/-- [Lcom/example/pricefold/pricefold/model/Identifier; -/
def k36 : Class := { plain "[Lcom/example/pricefold/pricefold/model/Identifier;" (some 0) with kind := .array 6 (.object "com/example/pricefold/pricefold/model/Identifier"), interfaces := #[11, 4], accessFlags := 1041 }

/-- [Ljava/lang/Object; -/
def k37 : Class := { plain "[Ljava/lang/Object;" (some 0) with kind := .array 0 (.object "java/lang/Object"), interfaces := #[11, 4], accessFlags := 1041 }

def heap : Heap := #[{ cls := 6, slots := #[.ref 5, .ref 6, .ref 7, .int 0, .ref 8, .ref 3], vm := .statics 6 },
  { cls := 9, slots := #[.long 0, .int 1, .null, .int 0, .null, .int 0, .int 0], vm := .statics 9 },
  { cls := 14, slots := #[.null, .null, .null], vm := .statics 14 },
  { cls := 36, slots := #[.ref 5, .ref 6, .ref 7], vm := .none },
  { cls := 37, slots := #[.ref 9, .ref 10, .ref 11, .ref 12, .ref 13], vm := .none },
  { cls := 6, slots := #[.null, .int 0, .int 0, .int 64], vm := .none },
  { cls := 6, slots := #[.null, .int 1, .int 0, .int 64], vm := .none },
  { cls := 6, slots := #[.null, .int 2, .int 0, .int 64], vm := .none },
  { cls := 23, slots := #[.ref 4, .int 0], vm := .none },
  { cls := 28, slots := #[.int 65, .int 90], vm := .none },
  { cls := 28, slots := #[.int 97, .int 122], vm := .none },
  { cls := 28, slots := #[.int 48, .int 57], vm := .none },
  { cls := 28, slots := #[.int 45, .int 45], vm := .none },
  { cls := 28, slots := #[.int 95, .int 95], vm := .none }]
def classes : Array Class := #[k0, k1, k2, k3, k4, k5, k6, k7, k8, k9, k10, k11, k12, k13, k14, k15, k16, k17, k18, k19, k20, k21, k22, k23, k24, k25, k26, k27, k28, k29, k30, k31, k32, k33, k34, k35, k36, k37]
def interned : List (Array UInt16 × Addr) := []
def slotsUsed : Nat := 48
def theMethod : MethodId := ⟨1, 1⟩
def args0 : Array Value := #[.int 5]
def aboutOver (below : List Frame) : State where
  vm := { classes := classes, interned := interned.toArray }
  heap := heap
  slotsUsed := slotsUsed
  threads := #[{ frames := .invoking theMethod args0 :: below }]
def below0 : List Frame := [.native { method := ⟨0, 0⟩, args := #[] }]
def about1 : State := aboutOver below0
def p0 : Program := .bare "" "" ""
def e0 : Env := launch0.env 0 0 0
theorem w_frames : about1.frames = Frame.invoking theMethod args0 :: below0 := rfl
set_option maxRecDepth 65536 in
theorem w_args : argsFit about1.vm theMethod args0 = true := by decide +kernel
set_option maxRecDepth 65536 in
theorem w_heap : heapFits about1 = true := by decide +kernel
set_option maxRecDepth 65536 in
theorem w_runnable : about1.curStatus? = some .runnable := by decide +kernel
set_option maxRecDepth 65536 in
theorem w_alone : about1.alone = true := by decide +kernel
set_option maxRecDepth 65536 in
theorem w_named : about1.methodNamed? x = some theMethod := by decide +kernel
set_option maxRecDepth 65536 in
theorem w_hears : about1.hears theMethod below0 = true := by decide +kernel
set_option maxRecDepth 65536 in
theorem w_ripe : about1.ripe theMethod args0 below0 = true := by decide +kernel
theorem w_running : about1.status = .running := rfl
set_option maxRecDepth 65536 in
theorem w_room : about1.hasRoom e0.platform room_1 = true :=
  launch0.hasRoom_least _ room_1 (by decide +kernel) (by decide +kernel) (by decide +kernel) (by decide +kernel) (by decide +kernel) (by decide +kernel)
theorem allAtoms_all (ts : List Jvm.Cond) (a : Array Jvm.Value) (st : Jvm.State) : (allAtoms ts).before a st = ts.all (fun c => c.before a st) := by
  induction ts with
  | nil => rfl
  | cons c t ih =>
    show (Jvm.Cond.and c (allAtoms t)).before a st = _
    rw [Jvm.Cond.before_and, ih, List.all_cons]
def words1 : List Jvm.Cond := Jvm.Cond.code x code maxLocals ret :: tables_1
/-- a 'code' word, met by the world's own term for the bytes: nothing is compared byte by byte -/
theorem code_word {y : MethodName} {bytes : ByteArray} {mx : Nat} {rt : Option FieldType} {a : Array Value} {s : State} {m : MethodId} {meth : Method} {c : Code} (h1 : s.methodNamed? y = some m) (h2 : s.vm.method? m = some meth) (h3 : meth.code = some c) (h4 : c.code = bytes)
    (h5 : (c.maxLocals == mx && c.exceptionTable.isEmpty && decide (c.maxStack ≤ mostOperands) && decide (meth.sig.returnType = rt) && !meth.locks && decide (parseMethodDescriptor y.desc = some meth.sig)) = true) : (Jvm.Cond.code y bytes mx rt).before a s = true := by
  simp only [Bool.and_eq_true, beq_iff_eq, Bool.not_eq_true', decide_eq_true_eq] at h5
  obtain ⟨⟨⟨⟨⟨g1, g2⟩, g3⟩, g4⟩, g5⟩, g6⟩ := h5
  simp [Cond.before, Cond.holds, Cond.value, h1, h2, h3, h4, g1, g2, g3, g4, g5, g6]
def isCode : Jvm.Cond → Bool
  | .code _ _ _ _ => true
  | _ => false
theorem all_split {L : List Jvm.Cond} {P : Jvm.Cond → Bool} (h1 : L.all (fun c => isCode c || P c) = true) (h2 : ∀ c ∈ L.filter isCode, P c = true) : L.all P = true := by
  refine List.all_eq_true.mpr fun c hc => ?_
  have h := List.all_eq_true.mp h1 c hc
  rcases Bool.eq_false_or_eq_true (isCode c) with hi | hi
  · exact h2 c (List.mem_filter.mpr ⟨hc, hi⟩)
  · simpa [hi] using h
set_option maxRecDepth 65536 in
theorem w_c0 : (Jvm.Cond.code x code maxLocals ret).before args0 about1 = true := code_word (m := ⟨1, 1⟩) (meth := k1m1) (c := k1c1) (by decide +kernel) rfl rfl rfl (by decide +kernel)
set_option maxRecDepth 65536 in
theorem w_c1 : (Jvm.Cond.code ({ cls := "java/lang/String", name := "<init>", desc := "([C)V" } : Jvm.MethodName) jdk_42_method_3_code (2 : Nat) (Option.none : Option Jvm.ClassFile.FieldType)).before args0 about1 = true := code_word (m := ⟨9, 1⟩) (meth := k9m1) (c := k9c1) (by decide +kernel) rfl rfl rfl (by decide +kernel)
set_option maxRecDepth 65536 in
theorem w_c2 : (Jvm.Cond.code ({ cls := "java/lang/String", name := "<init>", desc := "([CIILjava/lang/Void;)V" } : Jvm.MethodName) jdk_42_method_149_code (6 : Nat) (Option.none : Option Jvm.ClassFile.FieldType)).before args0 about1 = true := code_word (m := ⟨9, 4⟩) (meth := k9m4) (c := k9c4) (by decide +kernel) rfl rfl rfl (by decide +kernel)
set_option maxRecDepth 65536 in
theorem w_c3 : (Jvm.Cond.code ({ cls := "java/lang/Object", name := "<init>", desc := "()V" } : Jvm.MethodName) object_method_1_code (1 : Nat) (Option.none : Option Jvm.ClassFile.FieldType)).before args0 about1 = true := code_word (m := ⟨0, 0⟩) (meth := k0m0) (c := k0c0) (by decide +kernel) rfl rfl rfl (by decide +kernel)
set_option maxRecDepth 65536 in
theorem w_c4 : (Jvm.Cond.code ({ cls := "java/lang/StringUTF16", name := "compress", desc := "([CII)[B" } : Jvm.MethodName) jdk_52_method_16_code (6 : Nat) (Option.some (Jvm.ClassFile.FieldType.array Jvm.ClassFile.FieldType.byte))).before args0 about1 = true := code_word (m := ⟨10, 2⟩) (meth := k10m2) (c := k10c2) (by decide +kernel) rfl rfl rfl (by decide +kernel)
set_option maxRecDepth 65536 in
theorem w_c5 : (Jvm.Cond.code ({ cls := "java/lang/StringUTF16", name := "compress", desc := "([CI[BII)I" } : Jvm.MethodName) jdk_52_method_21_code (7 : Nat) (Option.some Jvm.ClassFile.FieldType.int)).before args0 about1 = true := code_word (m := ⟨10, 3⟩) (meth := k10m3) (c := k10c3) (by decide +kernel) rfl rfl rfl (by decide +kernel)
set_option maxRecDepth 65536 in
theorem w_c6 : (Jvm.Cond.code ({ cls := "java/lang/StringUTF16", name := "coderFromArrayLen", desc := "([BI)B" } : Jvm.MethodName) jdk_52_method_15_code (2 : Nat) (Option.some Jvm.ClassFile.FieldType.byte)).before args0 about1 = true := code_word (m := ⟨10, 1⟩) (meth := k10m1) (c := k10c1) (by decide +kernel) rfl rfl rfl (by decide +kernel)
set_option maxRecDepth 65536 in
theorem w_c7 : (Jvm.Cond.code ({ cls := "com/example/pricefold/pricefold/model/Identifier", name := "longest", desc := "()I" } : Jvm.MethodName) prog_48_method_4_code (5 : Nat) (Option.some Jvm.ClassFile.FieldType.int)).before args0 about1 = true := code_word (m := ⟨6, 1⟩) (meth := k6m1) (c := k6c1) (by decide +kernel) rfl rfl rfl (by decide +kernel)
set_option maxRecDepth 65536 in
theorem w_c8 : (Jvm.Cond.code ({ cls := "com/example/pricefold/pricefold/model/Identifier", name := "values", desc := "()[Lcom/example/pricefold/pricefold/model/Identifier;" } : Jvm.MethodName) prog_48_method_1_code (0 : Nat) (Option.some (Jvm.ClassFile.FieldType.array (Jvm.ClassFile.FieldType.object "com/example/pricefold/pricefold/model/Identifier")))).before args0 about1 = true := code_word (m := ⟨6, 0⟩) (meth := k6m0) (c := k6c0) (by decide +kernel) rfl rfl rfl (by decide +kernel)
set_option maxRecDepth 65536 in
theorem w_c9 : (Jvm.Cond.code ({ cls := "java/lang/Math", name := "max", desc := "(II)I" } : Jvm.MethodName) jdk_29_method_65_code (2 : Nat) (Option.some Jvm.ClassFile.FieldType.int)).before args0 about1 = true := code_word (m := ⟨12, 1⟩) (meth := k12m1) (c := k12c1) (by decide +kernel) rfl rfl rfl (by decide +kernel)
set_option maxRecDepth 65536 in
theorem w_c10 : (Jvm.Cond.code ({ cls := "java/lang/String", name := "length", desc := "()I" } : Jvm.MethodName) jdk_42_method_54_code (1 : Nat) (Option.some Jvm.ClassFile.FieldType.int)).before args0 about1 = true := code_word (m := ⟨9, 2⟩) (meth := k9m2) (c := k9c2) (by decide +kernel) rfl rfl rfl (by decide +kernel)
set_option maxRecDepth 65536 in
theorem w_c11 : (Jvm.Cond.code ({ cls := "java/lang/String", name := "coder", desc := "()B" } : Jvm.MethodName) jdk_42_method_152_code (1 : Nat) (Option.some Jvm.ClassFile.FieldType.byte)).before args0 about1 = true := code_word (m := ⟨9, 5⟩) (meth := k9m5) (c := k9c5) (by decide +kernel) rfl rfl rfl (by decide +kernel)
set_option maxRecDepth 65536 in
theorem w_c12 : (Jvm.Cond.code ({ cls := "com/example/pricefold/pricefold/model/Identifier", name := "matches", desc := "(Ljava/lang/String;)Z" } : Jvm.MethodName) prog_48_method_5_code (3 : Nat) (Option.some Jvm.ClassFile.FieldType.boolean)).before args0 about1 = true := code_word (m := ⟨6, 2⟩) (meth := k6m2) (c := k6c2) (by decide +kernel) rfl rfl rfl (by decide +kernel)
set_option maxRecDepth 65536 in
theorem w_c13 : (Jvm.Cond.code ({ cls := "java/lang/String", name := "charAt", desc := "(I)C" } : Jvm.MethodName) jdk_42_method_56_code (2 : Nat) (Option.some Jvm.ClassFile.FieldType.char)).before args0 about1 = true := code_word (m := ⟨9, 3⟩) (meth := k9m3) (c := k9c3) (by decide +kernel) rfl rfl rfl (by decide +kernel)
set_option maxRecDepth 65536 in
theorem w_c14 : (Jvm.Cond.code ({ cls := "java/lang/String", name := "isLatin1", desc := "()Z" } : Jvm.MethodName) jdk_42_method_154_code (1 : Nat) (Option.some Jvm.ClassFile.FieldType.boolean)).before args0 about1 = true := code_word (m := ⟨9, 6⟩) (meth := k9m6) (c := k9c6) (by decide +kernel) rfl rfl rfl (by decide +kernel)
set_option maxRecDepth 65536 in
theorem w_c15 : (Jvm.Cond.code ({ cls := "java/lang/StringLatin1", name := "charAt", desc := "([BI)C" } : Jvm.MethodName) jdk_43_method_2_code (2 : Nat) (Option.some Jvm.ClassFile.FieldType.char)).before args0 about1 = true := code_word (m := ⟨13, 1⟩) (meth := k13m1) (c := k13c1) (by decide +kernel) rfl rfl rfl (by decide +kernel)
set_option maxRecDepth 65536 in
theorem w_c16 : (Jvm.Cond.code ({ cls := "java/lang/String", name := "checkIndex", desc := "(II)V" } : Jvm.MethodName) jdk_42_method_155_code (2 : Nat) (Option.none : Option Jvm.ClassFile.FieldType)).before args0 about1 = true := code_word (m := ⟨9, 7⟩) (meth := k9m7) (c := k9c7) (by decide +kernel) rfl rfl rfl (by decide +kernel)
set_option maxRecDepth 65536 in
theorem w_c17 : (Jvm.Cond.code ({ cls := "jdk/internal/util/Preconditions", name := "checkIndex", desc := "(IILjava/util/function/BiFunction;)I" } : Jvm.MethodName) jdk_41_method_11_code (3 : Nat) (Option.some Jvm.ClassFile.FieldType.int)).before args0 about1 = true := code_word (m := ⟨14, 1⟩) (meth := k14m1) (c := k14c1) (by decide +kernel) rfl rfl rfl (by decide +kernel)
set_option maxRecDepth 65536 in
theorem w_c18 : (Jvm.Cond.code ({ cls := "com/example/pricefold/pricefold/model/Identifier", name := "isAmongCharacters", desc := "(C)Z" } : Jvm.MethodName) prog_48_method_6_code (3 : Nat) (Option.some Jvm.ClassFile.FieldType.boolean)).before args0 about1 = true := code_word (m := ⟨6, 3⟩) (meth := k6m3) (c := k6c3) (by decide +kernel) rfl rfl rfl (by decide +kernel)
set_option maxRecDepth 65536 in
theorem w_c19 : (Jvm.Cond.code ({ cls := "java/util/ImmutableCollections$AbstractImmutableList", name := "iterator", desc := "()Ljava/util/Iterator;" } : Jvm.MethodName) jdk_46_method_10_code (1 : Nat) (Option.some (Jvm.ClassFile.FieldType.object "java/util/Iterator"))).before args0 about1 = true := code_word (m := ⟨22, 1⟩) (meth := k22m1) (c := k22c1) (by decide +kernel) rfl rfl rfl (by decide +kernel)
set_option maxRecDepth 65536 in
theorem w_c20 : (Jvm.Cond.code ({ cls := "java/util/ImmutableCollections$ListN", name := "size", desc := "()I" } : Jvm.MethodName) jdk_45_method_3_code (1 : Nat) (Option.some Jvm.ClassFile.FieldType.int)).before args0 about1 = true := code_word (m := ⟨23, 0⟩) (meth := k23m0) (c := k23c0) (by decide +kernel) rfl rfl rfl (by decide +kernel)
set_option maxRecDepth 65536 in
theorem w_c21 : (Jvm.Cond.code ({ cls := "java/util/ImmutableCollections$ListItr", name := "<init>", desc := "(Ljava/util/List;I)V" } : Jvm.MethodName) jdk_53_method_1_code (3 : Nat) (Option.none : Option Jvm.ClassFile.FieldType)).before args0 about1 = true := code_word (m := ⟨26, 0⟩) (meth := k26m0) (c := k26c0) (by decide +kernel) rfl rfl rfl (by decide +kernel)
set_option maxRecDepth 65536 in
theorem w_c22 : (Jvm.Cond.code ({ cls := "java/util/ImmutableCollections$ListItr", name := "hasNext", desc := "()Z" } : Jvm.MethodName) jdk_53_method_3_code (1 : Nat) (Option.some Jvm.ClassFile.FieldType.boolean)).before args0 about1 = true := code_word (m := ⟨26, 1⟩) (meth := k26m1) (c := k26c1) (by decide +kernel) rfl rfl rfl (by decide +kernel)
set_option maxRecDepth 65536 in
theorem w_c23 : (Jvm.Cond.code ({ cls := "java/util/ImmutableCollections$ListN", name := "get", desc := "(I)Ljava/lang/Object;" } : Jvm.MethodName) jdk_45_method_4_code (2 : Nat) (Option.some (Jvm.ClassFile.FieldType.object "java/lang/Object"))).before args0 about1 = true := code_word (m := ⟨23, 1⟩) (meth := k23m1) (c := k23c1) (by decide +kernel) rfl rfl rfl (by decide +kernel)
set_option maxRecDepth 65536 in
theorem w_c24 : (Jvm.Cond.code ({ cls := "com/example/pricefold/pricefold/model/Identifier$Span", name := "holds", desc := "(C)Z" } : Jvm.MethodName) prog_49_method_2_code (2 : Nat) (Option.some Jvm.ClassFile.FieldType.boolean)).before args0 about1 = true := code_word (m := ⟨28, 0⟩) (meth := k28m0) (c := k28c0) (by decide +kernel) rfl rfl rfl (by decide +kernel)
def codes1 : List Jvm.Cond := [Jvm.Cond.code x code maxLocals ret, Jvm.Cond.code ({ cls := "java/lang/String", name := "<init>", desc := "([C)V" } : Jvm.MethodName) jdk_42_method_3_code (2 : Nat) (Option.none : Option Jvm.ClassFile.FieldType), Jvm.Cond.code ({ cls := "java/lang/String", name := "<init>", desc := "([CIILjava/lang/Void;)V" } : Jvm.MethodName) jdk_42_method_149_code (6 : Nat) (Option.none : Option Jvm.ClassFile.FieldType), Jvm.Cond.code ({ cls := "java/lang/Object", name := "<init>", desc := "()V" } : Jvm.MethodName) object_method_1_code (1 : Nat) (Option.none : Option Jvm.ClassFile.FieldType), Jvm.Cond.code ({ cls := "java/lang/StringUTF16", name := "compress", desc := "([CII)[B" } : Jvm.MethodName) jdk_52_method_16_code (6 : Nat) (Option.some (Jvm.ClassFile.FieldType.array Jvm.ClassFile.FieldType.byte)), Jvm.Cond.code ({ cls := "java/lang/StringUTF16", name := "compress", desc := "([CI[BII)I" } : Jvm.MethodName) jdk_52_method_21_code (7 : Nat) (Option.some Jvm.ClassFile.FieldType.int), Jvm.Cond.code ({ cls := "java/lang/StringUTF16", name := "coderFromArrayLen", desc := "([BI)B" } : Jvm.MethodName) jdk_52_method_15_code (2 : Nat) (Option.some Jvm.ClassFile.FieldType.byte), Jvm.Cond.code ({ cls := "com/example/pricefold/pricefold/model/Identifier", name := "longest", desc := "()I" } : Jvm.MethodName) prog_48_method_4_code (5 : Nat) (Option.some Jvm.ClassFile.FieldType.int), Jvm.Cond.code ({ cls := "com/example/pricefold/pricefold/model/Identifier", name := "values", desc := "()[Lcom/example/pricefold/pricefold/model/Identifier;" } : Jvm.MethodName) prog_48_method_1_code (0 : Nat) (Option.some (Jvm.ClassFile.FieldType.array (Jvm.ClassFile.FieldType.object "com/example/pricefold/pricefold/model/Identifier"))), Jvm.Cond.code ({ cls := "java/lang/Math", name := "max", desc := "(II)I" } : Jvm.MethodName) jdk_29_method_65_code (2 : Nat) (Option.some Jvm.ClassFile.FieldType.int), Jvm.Cond.code ({ cls := "java/lang/String", name := "length", desc := "()I" } : Jvm.MethodName) jdk_42_method_54_code (1 : Nat) (Option.some Jvm.ClassFile.FieldType.int), Jvm.Cond.code ({ cls := "java/lang/String", name := "coder", desc := "()B" } : Jvm.MethodName) jdk_42_method_152_code (1 : Nat) (Option.some Jvm.ClassFile.FieldType.byte), Jvm.Cond.code ({ cls := "com/example/pricefold/pricefold/model/Identifier", name := "matches", desc := "(Ljava/lang/String;)Z" } : Jvm.MethodName) prog_48_method_5_code (3 : Nat) (Option.some Jvm.ClassFile.FieldType.boolean), Jvm.Cond.code ({ cls := "java/lang/String", name := "charAt", desc := "(I)C" } : Jvm.MethodName) jdk_42_method_56_code (2 : Nat) (Option.some Jvm.ClassFile.FieldType.char), Jvm.Cond.code ({ cls := "java/lang/String", name := "isLatin1", desc := "()Z" } : Jvm.MethodName) jdk_42_method_154_code (1 : Nat) (Option.some Jvm.ClassFile.FieldType.boolean), Jvm.Cond.code ({ cls := "java/lang/StringLatin1", name := "charAt", desc := "([BI)C" } : Jvm.MethodName) jdk_43_method_2_code (2 : Nat) (Option.some Jvm.ClassFile.FieldType.char), Jvm.Cond.code ({ cls := "java/lang/String", name := "checkIndex", desc := "(II)V" } : Jvm.MethodName) jdk_42_method_155_code (2 : Nat) (Option.none : Option Jvm.ClassFile.FieldType), Jvm.Cond.code ({ cls := "jdk/internal/util/Preconditions", name := "checkIndex", desc := "(IILjava/util/function/BiFunction;)I" } : Jvm.MethodName) jdk_41_method_11_code (3 : Nat) (Option.some Jvm.ClassFile.FieldType.int), Jvm.Cond.code ({ cls := "com/example/pricefold/pricefold/model/Identifier", name := "isAmongCharacters", desc := "(C)Z" } : Jvm.MethodName) prog_48_method_6_code (3 : Nat) (Option.some Jvm.ClassFile.FieldType.boolean), Jvm.Cond.code ({ cls := "java/util/ImmutableCollections$AbstractImmutableList", name := "iterator", desc := "()Ljava/util/Iterator;" } : Jvm.MethodName) jdk_46_method_10_code (1 : Nat) (Option.some (Jvm.ClassFile.FieldType.object "java/util/Iterator")), Jvm.Cond.code ({ cls := "java/util/ImmutableCollections$ListN", name := "size", desc := "()I" } : Jvm.MethodName) jdk_45_method_3_code (1 : Nat) (Option.some Jvm.ClassFile.FieldType.int), Jvm.Cond.code ({ cls := "java/util/ImmutableCollections$ListItr", name := "<init>", desc := "(Ljava/util/List;I)V" } : Jvm.MethodName) jdk_53_method_1_code (3 : Nat) (Option.none : Option Jvm.ClassFile.FieldType), Jvm.Cond.code ({ cls := "java/util/ImmutableCollections$ListItr", name := "hasNext", desc := "()Z" } : Jvm.MethodName) jdk_53_method_3_code (1 : Nat) (Option.some Jvm.ClassFile.FieldType.boolean), Jvm.Cond.code ({ cls := "java/util/ImmutableCollections$ListN", name := "get", desc := "(I)Ljava/lang/Object;" } : Jvm.MethodName) jdk_45_method_4_code (2 : Nat) (Option.some (Jvm.ClassFile.FieldType.object "java/lang/Object")), Jvm.Cond.code ({ cls := "com/example/pricefold/pricefold/model/Identifier$Span", name := "holds", desc := "(C)Z" } : Jvm.MethodName) prog_49_method_2_code (2 : Nat) (Option.some Jvm.ClassFile.FieldType.boolean)]
set_option maxRecDepth 65536 in
theorem codes_eq : words1.filter isCode = codes1 := rfl
theorem w_codes : ∀ c ∈ words1.filter isCode, c.before args0 about1 = true := by
  rw [codes_eq]
  intro c hc
  simp only [codes1, List.mem_cons, List.not_mem_nil, or_false] at hc
  rcases hc with rfl | rfl | rfl | rfl | rfl | rfl | rfl | rfl | rfl | rfl | rfl | rfl | rfl | rfl | rfl | rfl | rfl | rfl | rfl | rfl | rfl | rfl | rfl | rfl | rfl
  · exact w_c0
  · exact w_c1
  · exact w_c2
  · exact w_c3
  · exact w_c4
  · exact w_c5
  · exact w_c6
  · exact w_c7
  · exact w_c8
  · exact w_c9
  · exact w_c10
  · exact w_c11
  · exact w_c12
  · exact w_c13
  · exact w_c14
  · exact w_c15
  · exact w_c16
  · exact w_c17
  · exact w_c18
  · exact w_c19
  · exact w_c20
  · exact w_c21
  · exact w_c22
  · exact w_c23
  · exact w_c24
set_option maxRecDepth 65536 in
theorem w_t1 : (words1.take 24).all (fun c => isCode c || c.before args0 about1) = true := by decide +kernel
set_option maxRecDepth 65536 in
theorem w_t2 : ((words1.drop 24).take 24).all (fun c => isCode c || c.before args0 about1) = true := by decide +kernel
set_option maxRecDepth 65536 in
theorem w_t3 : (((words1.drop 24).drop 24).take 24).all (fun c => isCode c || c.before args0 about1) = true := by decide +kernel
set_option maxRecDepth 65536 in
theorem w_t4 : ((((words1.drop 24).drop 24).drop 24).take 24).all (fun c => isCode c || c.before args0 about1) = true := by decide +kernel
set_option maxRecDepth 65536 in
theorem w_t5 : (((((words1.drop 24).drop 24).drop 24).drop 24).take 24).all (fun c => isCode c || c.before args0 about1) = true := by decide +kernel
set_option maxRecDepth 65536 in
theorem w_t6 : ((((((words1.drop 24).drop 24).drop 24).drop 24).drop 24).take 24).all (fun c => isCode c || c.before args0 about1) = true := by decide +kernel
set_option maxRecDepth 65536 in
theorem w_t7 : (((((((words1.drop 24).drop 24).drop 24).drop 24).drop 24).drop 24).take 24).all (fun c => isCode c || c.before args0 about1) = true := by decide +kernel
set_option maxRecDepth 65536 in
theorem w_t8 : (((((((words1.drop 24).drop 24).drop 24).drop 24).drop 24).drop 24).drop 24).all (fun c => isCode c || c.before args0 about1) = true := by decide +kernel
theorem w_tables : (allAtoms (Jvm.Cond.code x code maxLocals ret :: tables_1)).before args0 about1 = true := by
  rw [allAtoms_all]
  show words1.all (fun c => c.before args0 about1) = true
  refine all_split ?_ w_codes
  rw [← List.take_append_drop 24 words1, List.all_append, w_t1, ← List.take_append_drop 24 (words1.drop 24), List.all_append, w_t2, ← List.take_append_drop 24 ((words1.drop 24).drop 24), List.all_append, w_t3, ← List.take_append_drop 24 (((words1.drop 24).drop 24).drop 24), List.all_append, w_t4, ← List.take_append_drop 24 ((((words1.drop 24).drop 24).drop 24).drop 24), List.all_append, w_t5, ← List.take_append_drop 24 (((((words1.drop 24).drop 24).drop 24).drop 24).drop 24), List.all_append, w_t6, ← List.take_append_drop 24 ((((((words1.drop 24).drop 24).drop 24).drop 24).drop 24).drop 24), List.all_append, w_t7, w_t8]
  rfl
set_option maxRecDepth 65536 in
theorem w_rest : rest_1_c.before args0 about1 = true := by decide +kernel
set_option maxRecDepth 65536 in
theorem w_case : (Jvm.Cond.and given_1 narrow_1).before args0 about1 = true := by decide +kernel
theorem w_applies : (headSpec (Jvm.Cond.code x code maxLocals ret :: tables_1) room_1).applies x e0.platform about1 = true :=
  (Spec.applies_iff w_frames).mpr ⟨w_running, w_runnable, w_alone, w_named, w_hears, w_ripe, w_room, w_tables⟩
theorem atStart : AtStart classFile x code maxLocals ret World_1 tables_1 room_1 Calls_1 rest_1 Pre_1 launch0 p0 e0 about1 theMethod args0 below0 :=
  ⟨lists_1, trivial, launch0.admits_env _ _ _, launch0.least_env, fairChoices_fair.cas, fairChoices_fair.clock, w_frames, w_args, w_heap, w_applies, trivial, w_rest, w_case⟩
end start1
theorem witness_1 : WitnessClaimed_1 := ⟨start1.p0, start1.e0, start1.about1, start1.theMethod, start1.args0, start1.below0, start1.atStart⟩
end Jvm.Pilot.@@N@@
