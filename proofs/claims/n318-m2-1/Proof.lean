import JvmDerived
import JvmDerived.Pilot.@@N@@Statement
import JvmDerived.Pilot.@@N@@Code
set_option linter.unusedVariables false
set_option linter.unusedSimpArgs false
/- laws to paste: Road.backV, Road.codOf, Road.empW (cut by pick.py; bodies as the Statement names them) -/
namespace Jvm.Pilot.@@N@@
namespace StrChars
open Jvm Sem ClassFile Op Lib Jvm.Stand Jvm.Free.XT Jvm.Free.ALB Jvm.Free.JM Jvm.Free
open Jvm.Lib.Cold (StaticIs)
/-- a char array whose places are chars -/
def Ch (a : Addr) (A : Cell) (U : State) : Prop := Arr .char a A U ∧ Typed .char A
theorem Ch.mv {a : Addr} {A : Cell} {U U' : State} (h : Ch a A U) (hal : U.vm.Alike U'.vm) (hh : U'.heap = U.heap) : Ch a A U' := ⟨h.1.mv hal hh, h.2⟩
theorem Ch.keep {a : Addr} {A : Cell} {U U' : State} (h : Ch a A U) (hal : U.vm.Alike U'.vm) (hk : U'.heap[a]? = some A) : Ch a A U' := ⟨h.1.keep hal hk, h.2⟩
/-- what place i of a char[]'s cell holds -/
def cv (A : Cell) (i : Nat) : Int32 := match A.slots[i]? with | some (.int x) => x | _ => 0
theorem Ch.get {a : Addr} {A : Cell} {U : State} (h : Ch a A U) {i : Nat} (hi : i < A.slots.size) : A.slots[i]? = some (.int (cv A i)) := by
  have e := Array.getElem?_eq_getElem hi
  have f := h.2 i _ e
  unfold cv; rw [e]
  generalize A.slots[i] = v at f
  cases v <;> simp [fits] at f ⊢
/-- the byte that i2b leaves of a char -/
def lo8 (x : Int32) : Int32 := x.toInt8.toInt32
theorem fits_lo8 (y : Int32) : fits .byte (.int (lo8 y)) = true := by
  have h1 := y.toInt8.le_toInt
  have h2 := y.toInt8.toInt_lt
  simp only [lo8, fits, Bool.and_eq_true, decide_eq_true_eq, Int32.le_iff_toInt_le, Int8.toInt_toInt32, show (-128 : Int32).toInt = -128 from by decide, show (127 : Int32).toInt = 127 from by decide]
  omega
/-- A' is A but that each place j of lo .. hi - 1 holds f j -/
def Laid (A A' : Cell) (lo hi : Nat) (f : Nat → Value) : Prop := A'.cls = A.cls ∧ A'.vm = A.vm ∧ A'.slots.size = A.slots.size ∧ ∀ i, A'.slots[i]? = if lo ≤ i ∧ i < hi then some (f i) else A.slots[i]?
theorem Laid.zero (A : Cell) (lo : Nat) (f : Nat → Value) : Laid A A lo (lo + 0) f := ⟨rfl, rfl, rfl, fun i => by rw [if_neg (by omega)]⟩
theorem Laid.step {A Ak : Cell} {lo k : Nat} {f : Nat → Value} {v : Value} (h : Laid A Ak lo k f) (hlo : lo ≤ k) (hk : k < Ak.slots.size) (hv : v = f k) : Laid A (Ak.setSlot k v) lo (k + 1) f := by
  refine ⟨h.1, h.2.1, by simpa [Cell.setSlot] using h.2.2.1, fun i => ?_⟩
  by_cases e : k = i
  · subst e; rw [Cell.slots_setSlot_self v hk, if_pos (by omega), hv]
  · rw [Cell.slots_setSlot_ne v e, h.2.2.2 i]
    by_cases q : lo ≤ i ∧ i < k
    · rw [if_pos q, if_pos (by omega)]
    · rw [if_neg q, if_neg (by omega)]
def U16 : String := "java/lang/StringUTF16"
namespace Cmp5
def yN : MethodName := ⟨"java/lang/StringUTF16", "compress", "([CI[BII)I"⟩
abbrev yB : ByteArray := jdk_52_method_21_code
theorem d0 : decode yB 0 = .ok (.iconst 0, 1) := by decide +kernel
theorem d1 : decode yB 1 = .ok (.istore 5, 2) := by decide +kernel
theorem d3 : decode yB 3 = .ok (.iload 5, 2) := by decide +kernel
theorem d5 : decode yB 5 = .ok (.iload 4, 2) := by decide +kernel
theorem d7 : decode yB 7 = .ok (.if_icmp (.ge) 37, 3) := by decide +kernel
theorem d10 : decode yB 10 = .ok (.aload_n 0, 1) := by decide +kernel
theorem d11 : decode yB 11 = .ok (.iload_n 1, 1) := by decide +kernel
theorem d12 : decode yB 12 = .ok (.caload, 1) := by decide +kernel
theorem d13 : decode yB 13 = .ok (.istore 6, 2) := by decide +kernel
theorem d15 : decode yB 15 = .ok (.iload 6, 2) := by decide +kernel
theorem d17 : decode yB 17 = .ok (.sipush 255, 3) := by decide +kernel
theorem d20 : decode yB 20 = .ok (.if_icmp (.le) 6, 3) := by decide +kernel
theorem d26 : decode yB 26 = .ok (.aload_n 2, 1) := by decide +kernel
theorem d27 : decode yB 27 = .ok (.iload_n 3, 1) := by decide +kernel
theorem d28 : decode yB 28 = .ok (.iload 6, 2) := by decide +kernel
theorem d30 : decode yB 30 = .ok (.i2b, 1) := by decide +kernel
theorem d31 : decode yB 31 = .ok (.bastore, 1) := by decide +kernel
theorem d32 : decode yB 32 = .ok (.iinc 1 1, 3) := by decide +kernel
theorem d35 : decode yB 35 = .ok (.iinc 3 1, 3) := by decide +kernel
theorem d38 : decode yB 38 = .ok (.iinc 5 1, 3) := by decide +kernel
theorem d41 : decode yB 41 = .ok (.goto (-38), 3) := by decide +kernel
theorem d44 : decode yB 44 = .ok (.iload 4, 2) := by decide +kernel
theorem d46 : decode yB 46 = .ok (.ireturn, 1) := by decide +kernel
def site : List Cond := []
def tab : Cond := tabOf yN yB 7 (some .int) site
def P (b : Addr) (A : Cell) (d : Addr) (B : Cell) (o q len : Nat) (args : Array Value) (s : State) : Prop := args = #[.ref b, .int (Int32.ofNat o), .ref d, .int (Int32.ofNat q), .int (Int32.ofNat len)] ∧ Ch b A s ∧ Arr .byte d B s ∧ b ≠ d ∧ o + len ≤ A.slots.size ∧ q + len ≤ B.slots.size ∧ ∀ i, i < len → ¬ 255 < cv A (o + i)
def E (b : Addr) (A : Cell) (d : Addr) (B : Cell) (o q len : Nat) (r : Option Value) (s u : State) : Prop := r = some (.int (Int32.ofNat len)) ∧ ∃ B', Put d B' s u ∧ Laid B B' q (q + len) (fun j => Value.int (lo8 (cv A (o + (j - q)))))
/-- no char of the range above 255: len; the places written hold each char's low byte -/
theorem law (l : Launch) (b : Addr) (A : Cell) (d : Addr) (B : Cell) (o q len : Nat) : Law l yN 5 5 0 0 yB 7 (some .int) site (P b A d B o q len) (E b A d B o q len) (copyLocs d q len) 0 0 := by
  refine Law.of_walk (plainFor_of_name (by decide +kernel)) (by decide +kernel) (by decide +kernel) (by decide) (fun _ _ h => by rw [h.1]; rfl) (fun _ U U' hal hh h => ⟨h.1, h.2.1.mv hal hh, h.2.2.1.mv hal hh, h.2.2.2⟩) (fun r U U' V V' h1 hal h2 h => ⟨h.1, h.2.elim fun B' q => ⟨B', q.1.mv h1 h2, q.2⟩⟩) ?_
  intro p e s m args below meth c s₁ X0 hexec hbytes hml hret hlk hnm hown hh0 W hP
  obtain ⟨rfl, hA, hB, hne, l1, l2, hp⟩ := hP
  have c1 : Steps p.tables e below (s₁.setTop (entryFrame m #[.ref b, .int (Int32.ofNat o), .ref d, .int (Int32.ofNat q), .int (Int32.ofNat len)] 7)) (s₁.setTop (mkF m 0 #[.val (.ref b), .val (.int (Int32.ofNat o)), .val (.ref d), .val (.int (Int32.ofNat q)), .val (.int (Int32.ofNat len)), .unset, .unset] [])) := entry rfl
  have hA0 := hA.1.mv X0.warmed.alike hh0
  have hB0 := hB.mv X0.warmed.alike hh0
  have a31 := hA.1.2.2.2
  have c2 : Steps p.tables e below (s₁.setTop (entryFrame m #[.ref b, .int (Int32.ofNat o), .ref d, .int (Int32.ofNat q), .int (Int32.ofNat len)] 7)) (s₁.setTop (mkF m 3 #[.val (.ref b), .val (.int (Int32.ofNat o)), .val (.ref d), .val (.int (Int32.ofNat q)), .val (.int (Int32.ofNat len)), .val (.int 0), .unset] [])) := c1.trans (by
    refine iconstV X0.here hexec rfl 0 (hb hbytes d0) (by decide) ?_
    refine XS.istore X0.here hexec rfl (hb hbytes d1) rfl rfl ?_
    exact Steps.refl _)
  have loop : ∀ (r i : Nat), i + r = len → ∀ (z : Slot), (z = .unset ∨ ∃ w, z = .val w ∧ w.category = 1) → ∀ (Tl : State) (Bk : Cell), Stand p l e { frames := 0, locals := 0, cells := 0, slots := 0 } s m #[.ref b, .int (Int32.ofNat o), .ref d, .int (Int32.ofNat q), .int (Int32.ofNat len)] below meth c Tl ([] ++ copyLocs d q i) 0 0 → Put d Bk s₁ Tl → Laid B Bk q (q + i) (fun j => Value.int (lo8 (cv A (o + (j - q))))) →
      Steps p.tables e below (s₁.setTop (entryFrame m #[.ref b, .int (Int32.ofNat o), .ref d, .int (Int32.ofNat q), .int (Int32.ofNat len)] 7)) (Tl.setTop (mkF m 3 #[.val (.ref b), .val (.int (Int32.ofNat (o + i))), .val (.ref d), .val (.int (Int32.ofNat (q + i))), .val (.int (Int32.ofNat len)), .val (.int (Int32.ofNat i)), z] [])) → ∃ (T' : State) (B' : Cell) (z' : Slot), Stand p l e { frames := 0, locals := 0, cells := 0, slots := 0 } s m #[.ref b, .int (Int32.ofNat o), .ref d, .int (Int32.ofNat q), .int (Int32.ofNat len)] below meth c T' ([] ++ copyLocs d q len) 0 0 ∧ Put d B' s₁ T' ∧ Laid B B' q (q + len) (fun j => Value.int (lo8 (cv A (o + (j - q))))) ∧
      Steps p.tables e below (s₁.setTop (entryFrame m #[.ref b, .int (Int32.ofNat o), .ref d, .int (Int32.ofNat q), .int (Int32.ofNat len)] 7)) (T'.setTop (mkF m 3 #[.val (.ref b), .val (.int (Int32.ofNat (o + len))), .val (.ref d), .val (.int (Int32.ofNat (q + len))), .val (.int (Int32.ofNat len)), .val (.int (Int32.ofNat len)), z'] [])) := by
    intro r
    induction r with
    | zero =>
      intro i hi z hz Tl Bk Xl pl fl cl
      have hil : i = len := by omega
      rw [hil] at Xl fl cl
      exact ⟨Tl, Bk, z, Xl, pl, fl, cl⟩
    | succ r ih =>
      intro i hi z hz Tl Bk Xl pl fl cl
      have all := X0.warmed.alike.symm.trans Xl.warmed.alike
      have hAl := hA0.keep all (pl.other hne hA0.1)
      have hBk := hB0.like all pl.1 fl.1 fl.2.1 fl.2.2.1
      have hlt : q + i < Bk.slots.size := by rw [fl.2.2.1]; omega
      have c3 : Steps p.tables e below (s₁.setTop (entryFrame m #[.ref b, .int (Int32.ofNat o), .ref d, .int (Int32.ofNat q), .int (Int32.ofNat len)] 7)) (Tl.setTop (mkF m 12 #[.val (.ref b), .val (.int (Int32.ofNat (o + i))), .val (.ref d), .val (.int (Int32.ofNat (q + i))), .val (.int (Int32.ofNat len)), .val (.int (Int32.ofNat i)), z] [.int (Int32.ofNat (o + i)), .ref b])) := cl.trans (by
        refine XS.iload Xl.here hexec rfl (hb hbytes d3) rfl ?_
        refine XS.iload Xl.here hexec rfl (hb hbytes d5) rfl ?_
        refine XS.icmpNo Xl.here hexec rfl (hb hbytes d7) rfl (ii_ge_f (lt32 (by omega) (by omega))) ?_
        refine XS.aloadN Xl.here hexec rfl (hb hbytes d10) rfl rfl ?_
        refine XS.iloadN Xl.here hexec rfl (hb hbytes d11) rfl ?_
        exact Steps.refl _)
      have c4 : Steps p.tables e below (s₁.setTop (entryFrame m #[.ref b, .int (Int32.ofNat o), .ref d, .int (Int32.ofNat q), .int (Int32.ofNat len)] 7)) (Tl.setTop (mkF m 13 #[.val (.ref b), .val (.int (Int32.ofNat (o + i))), .val (.ref d), .val (.int (Int32.ofNat (q + i))), .val (.int (Int32.ofNat len)), .val (.int (Int32.ofNat i)), z] [.int (cv A (o + i))])) := c3.trans (by
        refine Xl.aget hexec hAl rfl (hA.get (i := o + i) (by omega)) rfl rfl (hb hbytes d12) ?_
        exact Steps.refl _)
      have c5 : Steps p.tables e below (s₁.setTop (entryFrame m #[.ref b, .int (Int32.ofNat o), .ref d, .int (Int32.ofNat q), .int (Int32.ofNat len)] 7)) (Tl.setTop (mkF m 15 #[.val (.ref b), .val (.int (Int32.ofNat (o + i))), .val (.ref d), .val (.int (Int32.ofNat (q + i))), .val (.int (Int32.ofNat len)), .val (.int (Int32.ofNat i)), .val (.int (cv A (o + i)))] [])) := c4.trans (by
        refine XS.istoreS Xl.here hexec rfl (hb hbytes d13) rfl rfl hz ?_
        exact Steps.refl _)
      have c6 : Steps p.tables e below (s₁.setTop (entryFrame m #[.ref b, .int (Int32.ofNat o), .ref d, .int (Int32.ofNat q), .int (Int32.ofNat len)] 7)) (Tl.setTop (mkF m 31 #[.val (.ref b), .val (.int (Int32.ofNat (o + i))), .val (.ref d), .val (.int (Int32.ofNat (q + i))), .val (.int (Int32.ofNat len)), .val (.int (Int32.ofNat i)), .val (.int (cv A (o + i)))] [.int (lo8 (cv A (o + i))), .int (Int32.ofNat (q + i)), .ref d])) := c5.trans (by
        refine XS.iload Xl.here hexec rfl (hb hbytes d15) rfl ?_
        refine sipushV Xl.here hexec rfl 255 (hb hbytes d17) (by decide) ?_
        refine XS.icmpYes Xl.here hexec rfl (pc0 := 20) rfl (hb hbytes d20) rfl (ii_le_t (hp i (by omega))) (by decide) rfl ?_
        refine XS.aloadN Xl.here hexec rfl (hb hbytes d26) rfl rfl ?_
        refine XS.iloadN Xl.here hexec rfl (hb hbytes d27) rfl ?_
        refine XS.iload Xl.here hexec rfl (hb hbytes d28) rfl ?_
        refine i2b Xl.here hexec rfl (hb hbytes d30) rfl ?_
        exact Steps.refl _)
      obtain ⟨T7, X7, p7, st7⟩ := Xl.aput hexec hBk rfl hlt rfl (fits_lo8 (cv A (o + i))) (g := (mkF m 31 #[.val (.ref b), .val (.int (Int32.ofNat (o + i))), .val (.ref d), .val (.int (Int32.ofNat (q + i))), .val (.int (Int32.ofNat len)), .val (.int (Int32.ofNat i)), .val (.int (cv A (o + i)))] [.int (lo8 (cv A (o + i))), .int (Int32.ofNat (q + i)), .ref d])) rfl (rest := []) rfl (hb hbytes d31)
      have c8 : Steps p.tables e below (s₁.setTop (entryFrame m #[.ref b, .int (Int32.ofNat o), .ref d, .int (Int32.ofNat q), .int (Int32.ofNat len)] 7)) (T7.setTop (mkF m 32 #[.val (.ref b), .val (.int (Int32.ofNat (o + i))), .val (.ref d), .val (.int (Int32.ofNat (q + i))), .val (.int (Int32.ofNat len)), .val (.int (Int32.ofNat i)), .val (.int (cv A (o + i)))] [])) := c6.trans (st7 _ (Steps.refl _))
      have c9 : Steps p.tables e below (s₁.setTop (entryFrame m #[.ref b, .int (Int32.ofNat o), .ref d, .int (Int32.ofNat q), .int (Int32.ofNat len)] 7)) (T7.setTop (mkF m 3 #[.val (.ref b), .val (.int (Int32.ofNat (o + i) + 1)), .val (.ref d), .val (.int (Int32.ofNat (q + i) + 1)), .val (.int (Int32.ofNat len)), .val (.int (Int32.ofNat i + 1)), .val (.int (cv A (o + i)))] [])) := c8.trans (by
        refine iincV X7.here hexec rfl 1 (hb hbytes d32) (by decide) rfl rfl ?_
        refine iincV X7.here hexec rfl 1 (hb hbytes d35) (by decide) rfl rfl ?_
        refine iincV X7.here hexec rfl 1 (hb hbytes d38) (by decide) rfl rfl ?_
        refine XS.goto X7.here hexec rfl (pc0 := 41) rfl (hb hbytes d41) (by decide) rfl ?_
        exact Steps.refl _)
      have c10 : Steps p.tables e below (s₁.setTop (entryFrame m #[.ref b, .int (Int32.ofNat o), .ref d, .int (Int32.ofNat q), .int (Int32.ofNat len)] 7)) (T7.setTop (mkF m 3 #[.val (.ref b), .val (.int (Int32.ofNat (o + (i + 1)))), .val (.ref d), .val (.int (Int32.ofNat (q + (i + 1)))), .val (.int (Int32.ofNat len)), .val (.int (Int32.ofNat (i + 1))), .val (.int (cv A (o + i)))] [])) := by
        have := c9
        rw [succ32, succ32, succ32] at this
        exact this
      exact ih (i + 1) (by omega) _ (Or.inr ⟨_, rfl, rfl⟩) T7 _ (by rw [copyLocs_step, ← List.append_assoc]; exact X7) (pl.trans p7) (fl.step (by omega) hlt (by simp)) c10
  obtain ⟨T9, B9, z9, X9, p9, f9, g9⟩ := loop len 0 (by omega) .unset (Or.inl rfl) s₁ B (by simpa [copyLocs] using X0) ⟨hB0.1, fun _ _ => rfl, rfl⟩ (Laid.zero _ _ _) c2
  have c11 : Steps p.tables e below (s₁.setTop (entryFrame m #[.ref b, .int (Int32.ofNat o), .ref d, .int (Int32.ofNat q), .int (Int32.ofNat len)] 7)) (T9.setTop (mkF m 46 #[.val (.ref b), .val (.int (Int32.ofNat (o + len))), .val (.ref d), .val (.int (Int32.ofNat (q + len))), .val (.int (Int32.ofNat len)), .val (.int (Int32.ofNat len)), z9] [.int (Int32.ofNat len)])) := g9.trans (by
    refine XS.iload X9.here hexec rfl (hb hbytes d3) rfl ?_
    refine XS.iload X9.here hexec rfl (hb hbytes d5) rfl ?_
    refine XS.icmpYes X9.here hexec rfl (pc0 := 7) rfl (hb hbytes d7) rfl (ii_ge_t (nlt32 (by omega) (Nat.le_refl _))) (by decide) rfl ?_
    refine XS.iload X9.here hexec rfl (hb hbytes d44) rfl ?_
    exact Steps.refl _)
  exact ⟨T9, some (.int (Int32.ofNat len)), _, _, _, X9, by simp, rfl, rfl, (fun h => by cases h), ⟨rfl, B9, p9.from hh0, f9⟩, fun fs hl => c11.trans (X9.ireturnOut hexec hret rfl (Or.inl rfl) (hb hbytes d46) hl)⟩
end Cmp5
namespace Cmp3
def yN : MethodName := ⟨"java/lang/StringUTF16", "compress", "([CII)[B"⟩
abbrev yB : ByteArray := jdk_52_method_16_code
theorem d0 : decode yB 0 = .ok (.iload_n 2, 1) := by decide +kernel
theorem d1 : decode yB 1 = .ok (.newarray .byte, 2) := by decide +kernel
theorem d3 : decode yB 3 = .ok (.astore_n 3, 1) := by decide +kernel
theorem d4 : decode yB 4 = .ok (.aload_n 0, 1) := by decide +kernel
theorem d5 : decode yB 5 = .ok (.iload_n 1, 1) := by decide +kernel
theorem d6 : decode yB 6 = .ok (.aload_n 3, 1) := by decide +kernel
theorem d7 : decode yB 7 = .ok (.iconst 0, 1) := by decide +kernel
theorem d8 : decode yB 8 = .ok (.iload_n 2, 1) := by decide +kernel
theorem d9 : decode yB 9 = .ok (.invokestatic 115, 3) := by decide +kernel
theorem d12 : decode yB 12 = .ok (.istore 4, 2) := by decide +kernel
theorem d14 : decode yB 14 = .ok (.iload 4, 2) := by decide +kernel
theorem d16 : decode yB 16 = .ok (.iload_n 2, 1) := by decide +kernel
theorem d17 : decode yB 17 = .ok (.if_icmp (.eq) 40, 3) := by decide +kernel
theorem d57 : decode yB 57 = .ok (.aload_n 3, 1) := by decide +kernel
theorem d58 : decode yB 58 = .ok (.areturn, 1) := by decide +kernel
def site : List Cond := [.arrayClass .byte, Cmp5.tab] ++ staticW U16 115 Cmp5.yN
def tab : Cond := tabOf yN yB 6 (some (.array .byte)) site
def P (b : Addr) (A : Cell) (o len : Nat) (args : Array Value) (s : State) : Prop := args = #[.ref b, .int (Int32.ofNat o), .int (Int32.ofNat len)] ∧ Ch b A s ∧ o + len ≤ A.slots.size ∧ len ≤ 536870912 ∧ ∀ i, i < len → ¬ 255 < cv A (o + i)
def E (b : Addr) (A : Cell) (o len : Nat) (r : Option Value) (s u : State) : Prop := NewArr .byte "[B" len (fun j => .int (lo8 (cv A (o + j)))) r s u ∧ u.heap.size = s.heap.size + 1
/-- no char of the range above 255: a new byte[] of their low bytes -/
theorem law (l : Launch) (b : Addr) (A : Cell) (o len : Nat) : Law l yN 3 3 1 18 yB 6 (some (.array .byte)) site (P b A o len) (E b A o len) [] 1 len := by
  refine Law.of_walk (plainFor_of_name (by decide +kernel)) (by decide +kernel) (by decide +kernel) (by decide) (fun _ _ h => by rw [h.1]; rfl) (fun _ U U' hal hh h => ⟨h.1, h.2.1.mv hal hh, h.2.2⟩) (fun r U U' V V' h1 hal h2 h => ⟨NewArr.mv r U U' V V' h1 hal h2 h.1, by rw [h1, h2]; exact h.2⟩) ?_
  intro p e s m args below meth c s₁ X0 hexec hbytes hml hret hlk hnm hown hh0 W hP
  obtain ⟨rfl, hA, l1, l2, hp⟩ := hP
  have a31 := hA.1.2.2.2
  have c1 : Steps p.tables e below (s₁.setTop (entryFrame m #[.ref b, .int (Int32.ofNat o), .int (Int32.ofNat len)] 6)) (s₁.setTop (mkF m 0 #[.val (.ref b), .val (.int (Int32.ofNat o)), .val (.int (Int32.ofNat len)), .unset, .unset, .unset] [])) := entry rfl
  have c2 : Steps p.tables e below (s₁.setTop (entryFrame m #[.ref b, .int (Int32.ofNat o), .int (Int32.ofNat len)] 6)) (s₁.setTop (mkF m 1 #[.val (.ref b), .val (.int (Int32.ofNat o)), .val (.int (Int32.ofNat len)), .unset, .unset, .unset] [.int (Int32.ofNat len)])) := c1.trans (by
    refine XS.iloadN X0.here hexec rfl (hb hbytes d0) rfl ?_
    exact Steps.refl _)
  obtain ⟨T3, B3, X3, ba3, bs3, bv3, bh3, bf3, st3⟩ := X0.anew hexec (atype := .byte) (wk W (.arrayClass .byte)) rfl (by show len * 1 ≤ _; omega) (by omega) (g := (mkF m 1 #[.val (.ref b), .val (.int (Int32.ofNat o)), .val (.int (Int32.ofNat len)), .unset, .unset, .unset] [.int (Int32.ofNat len)])) rfl (hb hbytes d1) (rest := []) rfl (Nat.le_refl _) (by show 0 + len ≤ len; omega)
  rw [hh0] at ba3 st3
  have kp3 : XT.Kept s T3 := (XT.Kept.of_eq hh0).push bh3
  have hA3 := hA.keep X3.warmed.alike (kp3 _ _ hA.1.1)
  have hne : b ≠ s.heap.size := hA.1.ne
  have c4 : Steps p.tables e below (s₁.setTop (entryFrame m #[.ref b, .int (Int32.ofNat o), .int (Int32.ofNat len)] 6)) (T3.setTop (mkF m 3 #[.val (.ref b), .val (.int (Int32.ofNat o)), .val (.int (Int32.ofNat len)), .unset, .unset, .unset] [.ref s.heap.size])) := c2.trans (st3 _ (Steps.refl _))
  have c5 : Steps p.tables e below (s₁.setTop (entryFrame m #[.ref b, .int (Int32.ofNat o), .int (Int32.ofNat len)] 6)) (T3.setTop (mkF m 9 #[.val (.ref b), .val (.int (Int32.ofNat o)), .val (.int (Int32.ofNat len)), .val (.ref s.heap.size), .unset, .unset] [.int (Int32.ofNat len), .int 0, .ref s.heap.size, .int (Int32.ofNat o), .ref b])) := c4.trans (by
    refine XS.astoreN X3.here hexec rfl (hb hbytes d3) rfl rfl rfl ?_
    refine XS.aloadN X3.here hexec rfl (hb hbytes d4) rfl rfl ?_
    refine XS.iloadN X3.here hexec rfl (hb hbytes d5) rfl ?_
    refine XS.aloadN X3.here hexec rfl (hb hbytes d6) rfl rfl ?_
    refine iconstV X3.here hexec rfl 0 (hb hbytes d7) (by decide) ?_
    refine XS.iloadN X3.here hexec rfl (hb hbytes d8) rfl ?_
    exact Steps.refl _)
  obtain ⟨v6, T6, X6, E6, g6⟩ := X3.callS hexec (Cmp5.law l b A s.heap.size B3 o 0 len) hown (wks W (staticW U16 115 Cmp5.yN)) (wk W Cmp5.tab) (W := 0) (Nat.le_of_ble_eq_true rfl) (Nat.le_of_ble_eq_true rfl) (Nat.le_refl _) (by show 0 + len + 0 ≤ len; omega) (g := (mkF m 9 #[.val (.ref b), .val (.int (Int32.ofNat o)), .val (.int (Int32.ofNat len)), .val (.ref s.heap.size), .unset, .unset] [.int (Int32.ofNat len), .int (Int32.ofNat 0), .ref s.heap.size, .int (Int32.ofNat o), .ref b])) rfl (by rw [hml]; rfl) c5 (argsL := [.ref b, .int (Int32.ofNat o), .ref s.heap.size, .int (Int32.ofNat 0), .int (Int32.ofNat len)]) (rest := []) rfl rfl (by show 2 * 0 + 0 ≤ _; decide) (hb hbytes d9) (⟨rfl, hA3, ba3, hne, l1, by rw [bs3]; simp, hp⟩)
  obtain ⟨rfl, B6, p6, f6⟩ := E6
  have c7 : Steps p.tables e below (s₁.setTop (entryFrame m #[.ref b, .int (Int32.ofNat o), .int (Int32.ofNat len)] 6)) (T6.setTop (mkF m 12 #[.val (.ref b), .val (.int (Int32.ofNat o)), .val (.int (Int32.ofNat len)), .val (.ref s.heap.size), .unset, .unset] [.int (Int32.ofNat len)])) := g6
  have c8 : Steps p.tables e below (s₁.setTop (entryFrame m #[.ref b, .int (Int32.ofNat o), .int (Int32.ofNat len)] 6)) (T6.setTop (mkF m 58 #[.val (.ref b), .val (.int (Int32.ofNat o)), .val (.int (Int32.ofNat len)), .val (.ref s.heap.size), .val (.int (Int32.ofNat len)), .unset] [.ref s.heap.size])) := c7.trans (by
    refine XS.istore X6.here hexec rfl (hb hbytes d12) rfl rfl ?_
    refine XS.iload X6.here hexec rfl (hb hbytes d14) rfl ?_
    refine XS.iloadN X6.here hexec rfl (hb hbytes d16) rfl ?_
    refine XS.icmpYes X6.here hexec rfl (pc0 := 17) rfl (hb hbytes d17) rfl (ii_eq_t rfl) (by decide) rfl ?_
    refine XS.aloadN X6.here hexec rfl (hb hbytes d57) rfl rfl ?_
    exact Steps.refl _)
  have X8 := X6.wide (L' := []) (cells' := 1) (slots' := len) (fun x hx hlt => by
    simp only [List.nil_append, copyLocs, List.mem_map, List.mem_range] at hx
    obtain ⟨i, -, rfl⟩ := hx
    exact absurd hlt (Nat.lt_irrefl _)) (Nat.le_refl _) (by omega)
  exact ⟨T6, some (.ref s.heap.size), _, _, _, X8, rfl, rfl, rfl, (fun h => by cases h), ⟨⟨rfl, B6, ba3.like (X3.warmed.alike.symm.trans X6.warmed.alike) p6.1 f6.1 f6.2.1 f6.2.2.1, f6.2.1.trans bv3, by rw [X6.warmed.alike.findClass, f6.1]; exact bf3, by rw [f6.2.2.1, bs3]; simp, fun j hj => by rw [f6.2.2.2 j, if_pos (by omega)]; rfl, kp3.put p6 (Nat.le_refl _)⟩, by rw [p6.2.2, bh3, hh0]; simp⟩, fun fs hl => c8.trans (X8.areturnOut hexec rfl hret rfl (hb hbytes d58) hl)⟩
end Cmp3
namespace CodL
def yN : MethodName := ⟨"java/lang/StringUTF16", "coderFromArrayLen", "([BI)B"⟩
abbrev yB : ByteArray := jdk_52_method_15_code
theorem d0 : decode yB 0 = .ok (.iload_n 1, 1) := by decide +kernel
theorem d1 : decode yB 1 = .ok (.aload_n 0, 1) := by decide +kernel
theorem d2 : decode yB 2 = .ok (.arraylength, 1) := by decide +kernel
theorem d3 : decode yB 3 = .ok (.isub, 1) := by decide +kernel
theorem d4 : decode yB 4 = .ok (.bipush 31, 2) := by decide +kernel
theorem d6 : decode yB 6 = .ok (.iushr, 1) := by decide +kernel
theorem d7 : decode yB 7 = .ok (.i2b, 1) := by decide +kernel
theorem d8 : decode yB 8 = .ok (.ireturn, 1) := by decide +kernel
def site : List Cond := []
def tab : Cond := tabOf yN yB 2 (some .byte) site
def P (d : Addr) (B : Cell) (args : Array Value) (s : State) : Prop := args = #[.ref d, .int (Int32.ofNat B.slots.size)] ∧ Arr .byte d B s
def E (r : Option Value) (s u : State) : Prop := XT.PureE (some (.int 0)) r s u
/-- an array as long as the number of chars: LATIN1 -/
theorem law (l : Launch) (d : Addr) (B : Cell) : Law l yN 2 2 0 0 yB 2 (some .byte) site (P d B) E [] 0 0 := by
  refine Law.of_walk (plainFor_of_name (by decide +kernel)) (by decide +kernel) (by decide +kernel) (by decide) (fun _ _ h => by rw [h.1]; rfl) (fun _ U U' hal hh h => ⟨h.1, h.2.mv hal hh⟩) (fun r U U' V V' h1 hal h2 h => XT.PureE.mv r U U' V V' h1 hal h2 h) ?_
  intro p e s m args below meth c s₁ X0 hexec hbytes hml hret hlk hnm hown hh0 W hP
  obtain ⟨rfl, hB⟩ := hP
  have hB0 := hB.mv X0.warmed.alike hh0
  have c1 : Steps p.tables e below (s₁.setTop (entryFrame m #[.ref d, .int (Int32.ofNat B.slots.size)] 2)) (s₁.setTop (mkF m 0 #[.val (.ref d), .val (.int (Int32.ofNat B.slots.size))] [])) := entry rfl
  have c2 : Steps p.tables e below (s₁.setTop (entryFrame m #[.ref d, .int (Int32.ofNat B.slots.size)] 2)) (s₁.setTop (mkF m 2 #[.val (.ref d), .val (.int (Int32.ofNat B.slots.size))] [.ref d, .int (Int32.ofNat B.slots.size)])) := c1.trans (by
    refine XS.iloadN X0.here hexec rfl (hb hbytes d0) rfl ?_
    refine XS.aloadN X0.here hexec rfl (hb hbytes d1) rfl rfl ?_
    exact Steps.refl _)
  have c3 : Steps p.tables e below (s₁.setTop (entryFrame m #[.ref d, .int (Int32.ofNat B.slots.size)] 2)) (s₁.setTop (mkF m 8 #[.val (.ref d), .val (.int (Int32.ofNat B.slots.size))] [.int (lo8 (ushr (Int32.ofNat B.slots.size - Int32.ofNat B.slots.size) 31))])) := c2.trans (by
    refine X0.alen hexec hB0 rfl rfl (hb hbytes d2) ?_
    refine XS.isub X0.here hexec rfl (hb hbytes d3) rfl ?_
    refine bipushV X0.here hexec rfl 31 (hb hbytes d4) (by decide) ?_
    refine iushr X0.here hexec rfl (hb hbytes d6) rfl ?_
    refine i2b X0.here hexec rfl (hb hbytes d7) rfl ?_
    exact Steps.refl _)
  have e0 : lo8 (ushr (Int32.ofNat B.slots.size - Int32.ofNat B.slots.size) 31) = 0 := by rw [Int32.sub_self]; decide
  rw [e0] at c3
  exact ⟨s₁, some (.int 0), _, _, _, X0, rfl, rfl, rfl, (fun h => by cases h), ⟨rfl, hh0⟩, fun fs hl => c3.trans (X0.ireturnOut hexec hret rfl (Or.inr (Or.inr (Or.inl rfl))) (hb hbytes d8) hl)⟩
end CodL
/-- the String at a is Latin-1 over a new byte[] (the heap's one new cell): the low bytes of the len chars of A from o on; every cell but a is kept -/
def Got (a : Addr) (D : Cell) (fV fC : Field) (A : Cell) (o len : Nat) (r : Option Value) (s u : State) : Prop := r = none ∧ ∃ D' V : Cell, Blank "java/lang/String" a D' u ∧ Same D D' [fV.slot, fC.slot] ∧ D'.slots[fV.slot]? = some (.ref s.heap.size) ∧ D'.slots[fC.slot]? = some (.int 0) ∧ Arr .byte s.heap.size V u ∧ V.vm = .none ∧ u.vm.findClass "[B" = some V.cls ∧ V.slots.size = len ∧ (∀ j, j < len → V.slots[j]? = some (.int (lo8 (cv A (o + j))))) ∧ (∀ (y : Addr) (c : Cell), y ≠ a → s.heap[y]? = some c → u.heap[y]? = some c) ∧ u.heap.size = s.heap.size + 1
theorem Got.mv {a : Addr} {D A : Cell} {fV fC : Field} {o len : Nat} : ∀ r (U U' V V' : State), U'.heap = U.heap → V.vm.Alike V'.vm → V'.heap = V.heap → Got a D fV fC A o len r U V → Got a D fV fC A o len r U' V' :=
  fun r U U' V V' h1 hal h2 ⟨e0, D', X, a1, a2, a3, a4, a5, a6, a7, a8, a9, a10, a11⟩ => ⟨e0, D', X, a1.mv hal h2, a2, by rw [h1]; exact a3, a4, by rw [h1]; exact a5.mv hal h2, a6, by rw [hal.findClass]; exact a7, a8, a9, by rw [h1, h2]; exact a10, by rw [h1, h2]; exact a11⟩
namespace New4
def yN : MethodName := ⟨"java/lang/String", "<init>", "([CIILjava/lang/Void;)V"⟩
abbrev yB : ByteArray := jdk_42_method_149_code
theorem d0 : decode yB 0 = .ok (.aload_n 0, 1) := by decide +kernel
theorem d1 : decode yB 1 = .ok (.invokespecial 1, 3) := by decide +kernel
theorem d4 : decode yB 4 = .ok (.iload_n 3, 1) := by decide +kernel
theorem d5 : decode yB 5 = .ok (.ifCond (.ne) 22, 3) := by decide +kernel
theorem d27 : decode yB 27 = .ok (.getstatic 38, 3) := by decide +kernel
theorem d30 : decode yB 30 = .ok (.ifCond (.eq) 28, 3) := by decide +kernel
theorem d33 : decode yB 33 = .ok (.aload_n 1, 1) := by decide +kernel
theorem d34 : decode yB 34 = .ok (.iload_n 2, 1) := by decide +kernel
theorem d35 : decode yB 35 = .ok (.iload_n 3, 1) := by decide +kernel
theorem d36 : decode yB 36 = .ok (.invokestatic 177, 3) := by decide +kernel
theorem d39 : decode yB 39 = .ok (.astore 5, 2) := by decide +kernel
theorem d41 : decode yB 41 = .ok (.aload_n 0, 1) := by decide +kernel
theorem d42 : decode yB 42 = .ok (.aload 5, 2) := by decide +kernel
theorem d44 : decode yB 44 = .ok (.iload_n 3, 1) := by decide +kernel
theorem d45 : decode yB 45 = .ok (.invokestatic 47, 3) := by decide +kernel
theorem d48 : decode yB 48 = .ok (.putfield 15, 3) := by decide +kernel
theorem d51 : decode yB 51 = .ok (.aload_n 0, 1) := by decide +kernel
theorem d52 : decode yB 52 = .ok (.aload 5, 2) := by decide +kernel
theorem d54 : decode yB 54 = .ok (.putfield 9, 3) := by decide +kernel
theorem d57 : decode yB 57 = .ok (.return_, 1) := by decide +kernel
def site : List Cond := [.fieldLink "java/lang/String" 38 "java/lang/String" "COMPACT_STRINGS" "Z", Cmp3.tab, CodL.tab, .laysFinal "java/lang/String" "java/lang/String" "value" "[B", .fieldLink "java/lang/String" 9 "java/lang/String" "value" "[B", .laysFinal "java/lang/String" "java/lang/String" "coder" "B", .fieldLink "java/lang/String" 15 "java/lang/String" "coder" "B"] ++ objW "java/lang/String" 1 ++ staticW "java/lang/String" 177 Cmp3.yN ++ staticW "java/lang/String" 47 CodL.yN
def tab : Cond := tabOf yN yB 6 none site
def P (a : Addr) (D : Cell) (fV fC : Field) (b : Addr) (A : Cell) (z : Int32) (o len : Nat) (args : Array Value) (s : State) : Prop := args = #[.ref a, .ref b, .int (Int32.ofNat o), .int (Int32.ofNat len), .null] ∧ Blank "java/lang/String" a D s ∧ Found "java/lang/String" "value" "[B" fV s ∧ Found "java/lang/String" "coder" "B" fC s ∧ Ch b A s ∧ StaticIs s "java/lang/String" "COMPACT_STRINGS" "Z" (.int z) ∧ ¬ z = 0 ∧ 0 < len ∧ o + len ≤ A.slots.size ∧ len ≤ 536870912 ∧ ∀ i, i < len → ¬ 255 < cv A (o + i)
def E (a : Addr) (D : Cell) (fV fC : Field) (A : Cell) (o len : Nat) (r : Option Value) (s u : State) : Prop := Got a D fV fC A o len r s u
/-- len > 0, no char of the range above 255: a Latin-1 String of their low bytes -/
theorem law (l : Launch) (a : Addr) (D : Cell) (fV fC : Field) (b : Addr) (A : Cell) (z : Int32) (o len : Nat) : Law l yN 5 4 2 35 yB 6 none site (P a D fV fC b A z o len) (E a D fV fC A o len) [⟨a, fC.slot⟩, ⟨a, fV.slot⟩] 1 len := by
  refine Law.of_walk (plainFor_of_name (by decide +kernel)) (by decide +kernel) (by decide +kernel) (by decide) (fun _ _ h => by rw [h.1]; rfl) (fun _ U U' hal hh h => ⟨h.1, h.2.1.mv hal hh, h.2.2.1.al hal, h.2.2.2.1.al hal, h.2.2.2.2.1.mv hal hh, h.2.2.2.2.2.1.there hal hh, h.2.2.2.2.2.2⟩) (fun r U U' V V' h1 hal h2 h => Got.mv r U U' V V' h1 hal h2 h) ?_
  intro p e s m args below meth c s₁ X0 hexec hbytes hml hret hlk hnm hown hh0 W hP
  obtain ⟨rfl, hB, f1, f2, hA, s1, hz, l0, l1, l2, hp⟩ := hP
  have a31 := hA.1.2.2.2
  have c1 : Steps p.tables e below (s₁.setTop (entryFrame m #[.ref a, .ref b, .int (Int32.ofNat o), .int (Int32.ofNat len), .null] 6)) (s₁.setTop (mkF m 0 #[.val (.ref a), .val (.ref b), .val (.int (Int32.ofNat o)), .val (.int (Int32.ofNat len)), .val .null, .unset] [])) := entry rfl
  have c2 : Steps p.tables e below (s₁.setTop (entryFrame m #[.ref a, .ref b, .int (Int32.ofNat o), .int (Int32.ofNat len), .null] 6)) (s₁.setTop (mkF m 1 #[.val (.ref a), .val (.ref b), .val (.int (Int32.ofNat o)), .val (.int (Int32.ofNat len)), .val .null, .unset] [.ref a])) := c1.trans (by
    refine XS.aloadN X0.here hexec rfl (hb hbytes d0) rfl rfl ?_
    exact Steps.refl _)
  obtain ⟨T3, X3, q3, st3⟩ := X0.oinit hexec hown (wks W (objW "java/lang/String" 1)) (g := (mkF m 1 #[.val (.ref a), .val (.ref b), .val (.int (Int32.ofNat o)), .val (.int (Int32.ofNat len)), .val .null, .unset] [.ref a])) rfl (by rw [hml]; rfl) (rest := []) rfl (hb hbytes d1) (W := 0) (by show 2 * 0 + 0 ≤ _; decide) (Nat.le_of_ble_eq_true rfl) (Nat.le_of_ble_eq_true rfl)
  have hh3 := q3.trans hh0
  have c4 : Steps p.tables e below (s₁.setTop (entryFrame m #[.ref a, .ref b, .int (Int32.ofNat o), .int (Int32.ofNat len), .null] 6)) (T3.setTop (mkF m 27 #[.val (.ref a), .val (.ref b), .val (.int (Int32.ofNat o)), .val (.int (Int32.ofNat len)), .val .null, .unset] [])) := (c2.trans (st3 _ (Steps.refl _))).trans (by
    refine XS.iloadN X3.here hexec rfl (hb hbytes d4) rfl ?_
    refine XS.ifYes X3.here hexec rfl (pc0 := 5) rfl (hb hbytes d5) rfl (i0_ne_t (nz32 (by omega) l0)) (by decide) rfl ?_
    exact Steps.refl _)
  obtain ⟨T5, X5, q5, st5⟩ := X3.sget hexec hown (wk W (.fieldLink "java/lang/String" 38 "java/lang/String" "COMPACT_STRINGS" "Z")) s1 (fun _ _ h => by rw [hh3]; exact h) (g := (mkF m 27 #[.val (.ref a), .val (.ref b), .val (.int (Int32.ofNat o)), .val (.int (Int32.ofNat len)), .val .null, .unset] [])) rfl (hb hbytes d27)
  have hh5 := q5.trans hh3
  have c6 : Steps p.tables e below (s₁.setTop (entryFrame m #[.ref a, .ref b, .int (Int32.ofNat o), .int (Int32.ofNat len), .null] 6)) (T5.setTop (mkF m 30 #[.val (.ref a), .val (.ref b), .val (.int (Int32.ofNat o)), .val (.int (Int32.ofNat len)), .val .null, .unset] [.int z])) := c4.trans (st5 _ (Steps.refl _))
  have c7 : Steps p.tables e below (s₁.setTop (entryFrame m #[.ref a, .ref b, .int (Int32.ofNat o), .int (Int32.ofNat len), .null] 6)) (T5.setTop (mkF m 36 #[.val (.ref a), .val (.ref b), .val (.int (Int32.ofNat o)), .val (.int (Int32.ofNat len)), .val .null, .unset] [.int (Int32.ofNat len), .int (Int32.ofNat o), .ref b])) := c6.trans (by
    refine XS.ifNo X5.here hexec rfl (hb hbytes d30) rfl (i0_eq_f hz) ?_
    refine XS.aloadN X5.here hexec rfl (hb hbytes d33) rfl rfl ?_
    refine XS.iloadN X5.here hexec rfl (hb hbytes d34) rfl ?_
    refine XS.iloadN X5.here hexec rfl (hb hbytes d35) rfl ?_
    exact Steps.refl _)
  obtain ⟨v8, T8, X8, E8, g8⟩ := X5.callS hexec (Cmp3.law l b A o len) hown (wks W (staticW "java/lang/String" 177 Cmp3.yN)) (wk W Cmp3.tab) (W := 0) (Nat.le_of_ble_eq_true rfl) (Nat.le_of_ble_eq_true rfl) (Nat.le_refl _) (by show 0 + len ≤ len; omega) (g := (mkF m 36 #[.val (.ref a), .val (.ref b), .val (.int (Int32.ofNat o)), .val (.int (Int32.ofNat len)), .val .null, .unset] [.int (Int32.ofNat len), .int (Int32.ofNat o), .ref b])) rfl (by rw [hml]; rfl) c7 (argsL := [.ref b, .int (Int32.ofNat o), .int (Int32.ofNat len)]) (rest := []) rfl rfl (by show 2 * 0 + 0 ≤ _; decide) (hb hbytes d36) (⟨rfl, hA.mv X5.warmed.alike hh5, l1, l2, hp⟩)
  obtain ⟨e8, z8⟩ := E8
  obtain ⟨rfl, N, n1, n2, n3, n4, n5, n6⟩ := NewArr.mv _ T5 s _ _ hh5.symm (Vm.Alike.refl _) rfl e8
  rw [hh5] at z8
  have hB1 := hB.keep X8.warmed.alike (n6 _ _ hB.1)
  have hne : s.heap.size ≠ a := (Nat.ne_of_lt (Array.getElem?_eq_some_iff.mp hB.1).1).symm
  have c9 : Steps p.tables e below (s₁.setTop (entryFrame m #[.ref a, .ref b, .int (Int32.ofNat o), .int (Int32.ofNat len), .null] 6)) (T8.setTop (mkF m 39 #[.val (.ref a), .val (.ref b), .val (.int (Int32.ofNat o)), .val (.int (Int32.ofNat len)), .val .null, .unset] [.ref s.heap.size])) := g8
  have c10 : Steps p.tables e below (s₁.setTop (entryFrame m #[.ref a, .ref b, .int (Int32.ofNat o), .int (Int32.ofNat len), .null] 6)) (T8.setTop (mkF m 45 #[.val (.ref a), .val (.ref b), .val (.int (Int32.ofNat o)), .val (.int (Int32.ofNat len)), .val .null, .val (.ref s.heap.size)] [.int (Int32.ofNat N.slots.size), .ref s.heap.size, .ref a])) := by
    have hc : Steps p.tables e below (s₁.setTop (entryFrame m #[.ref a, .ref b, .int (Int32.ofNat o), .int (Int32.ofNat len), .null] 6)) (T8.setTop (mkF m 45 #[.val (.ref a), .val (.ref b), .val (.int (Int32.ofNat o)), .val (.int (Int32.ofNat len)), .val .null, .val (.ref s.heap.size)] [.int (Int32.ofNat len), .ref s.heap.size, .ref a])) := c9.trans (by
      refine XS.astore X8.here hexec rfl (hb hbytes d39) rfl rfl rfl ?_
      refine XS.aloadN X8.here hexec rfl (hb hbytes d41) rfl rfl ?_
      refine XS.aload X8.here hexec rfl (hb hbytes d42) rfl rfl ?_
      refine XS.iloadN X8.here hexec rfl (hb hbytes d44) rfl ?_
      exact Steps.refl _)
    rw [n4]; exact hc
  obtain ⟨v11, T11, X11, E11, g11⟩ := X8.callS hexec (CodL.law l s.heap.size N) hown (wks W (staticW "java/lang/String" 47 CodL.yN)) (wk W CodL.tab) (W := 1) (Nat.le_of_ble_eq_true rfl) (Nat.le_of_ble_eq_true rfl) (Nat.le_refl _) (by show 0 + len + 0 ≤ len; omega) (g := (mkF m 45 #[.val (.ref a), .val (.ref b), .val (.int (Int32.ofNat o)), .val (.int (Int32.ofNat len)), .val .null, .val (.ref s.heap.size)] [.int (Int32.ofNat N.slots.size), .ref s.heap.size, .ref a])) rfl (by rw [hml]; rfl) c10 (argsL := [.ref s.heap.size, .int (Int32.ofNat N.slots.size)]) (rest := [.ref a]) rfl rfl (by show 2 * 0 + (1 + 0) ≤ _; decide) (hb hbytes d45) (⟨rfl, n1⟩)
  obtain ⟨rfl, q11⟩ := E11
  have hB11 := hB1.mv (X8.warmed.alike.symm.trans X11.warmed.alike) q11
  have c12 : Steps p.tables e below (s₁.setTop (entryFrame m #[.ref a, .ref b, .int (Int32.ofNat o), .int (Int32.ofNat len), .null] 6)) (T11.setTop (mkF m 48 #[.val (.ref a), .val (.ref b), .val (.int (Int32.ofNat o)), .val (.int (Int32.ofNat len)), .val .null, .val (.ref s.heap.size)] [.int 0, .ref a])) := g11
  obtain ⟨T13, X13, p13, bl13, sl13, st13⟩ := X11.finit hexec hown (wk W (.fieldLink "java/lang/String" 15 "java/lang/String" "coder" "B")) (Or.inr ⟨_, (wk W (.laysFinal "java/lang/String" "java/lang/String" "coder" "B"))⟩) (Or.inl ⟨rfl, hnm⟩) f2 (Or.inl rfl) hB11 (t := .byte) (by decide +kernel) rfl (g := (mkF m 48 #[.val (.ref a), .val (.ref b), .val (.int (Int32.ofNat o)), .val (.int (Int32.ofNat len)), .val .null, .val (.ref s.heap.size)] [.int 0, .ref a])) rfl (rest := []) rfl (hb hbytes d48)
  have c14 : Steps p.tables e below (s₁.setTop (entryFrame m #[.ref a, .ref b, .int (Int32.ofNat o), .int (Int32.ofNat len), .null] 6)) (T13.setTop (mkF m 54 #[.val (.ref a), .val (.ref b), .val (.int (Int32.ofNat o)), .val (.int (Int32.ofNat len)), .val .null, .val (.ref s.heap.size)] [.ref s.heap.size, .ref a])) := (c12.trans (st13 _ (Steps.refl _))).trans (by
    refine XS.aloadN X13.here hexec rfl (hb hbytes d51) rfl rfl ?_
    refine XS.aload X13.here hexec rfl (hb hbytes d52) rfl rfl ?_
    exact Steps.refl _)
  obtain ⟨T15, X15, p15, bl15, sl15, st15⟩ := X13.finit hexec hown (wk W (.fieldLink "java/lang/String" 9 "java/lang/String" "value" "[B")) (Or.inr ⟨_, (wk W (.laysFinal "java/lang/String" "java/lang/String" "value" "[B"))⟩) (Or.inl ⟨rfl, hnm⟩) f1 (Or.inl rfl) bl13 (t := (.array .byte)) (by decide +kernel) rfl (g := (mkF m 54 #[.val (.ref a), .val (.ref b), .val (.int (Int32.ofNat o)), .val (.int (Int32.ofNat len)), .val .null, .val (.ref s.heap.size)] [.ref s.heap.size, .ref a])) rfl (rest := []) rfl (hb hbytes d54)
  have c16 : Steps p.tables e below (s₁.setTop (entryFrame m #[.ref a, .ref b, .int (Int32.ofNat o), .int (Int32.ofNat len), .null] 6)) (T15.setTop (mkF m 57 #[.val (.ref a), .val (.ref b), .val (.int (Int32.ofNat o)), .val (.int (Int32.ofNat len)), .val .null, .val (.ref s.heap.size)] [])) := c14.trans (st15 _ (Steps.refl _))
  have ap := apart (Or.inr ⟨_, (wk W (.laysFinal "java/lang/String" "java/lang/String" "value" "[B"))⟩) (Or.inr ⟨_, (wk W (.laysFinal "java/lang/String" "java/lang/String" "coder" "B"))⟩) f1 f2 (t₁ := .array .byte) (t₂ := .byte) (by decide +kernel) (by decide +kernel) (by decide)
  have al := X8.warmed.alike.symm.trans X15.warmed.alike
  have n7 : T11.heap[s.heap.size]? = some N := by rw [q11]; exact n1.1
  exact ⟨T15, none, _, _, _, X15, by simp, rfl, by omega, (fun _ => rfl), ⟨rfl, _, N, bl15, ((Same.refl D _).set _ (by simp)).set _ (by simp), sl15, (Cell.slots_setSlot_ne _ ap).trans sl13, n1.keep al (p15.other hne (p13.other hne n7)), n2, by rw [al.findClass]; exact n3, n4, n5, fun y c h1 h2 => p15.other h1 (p13.other h1 (by rw [q11]; exact n6 y c h2)), by rw [p15.2.2, p13.2.2, q11]; exact z8⟩, fun fs hl => c16.trans (X15.returnOut hexec hret (hb hbytes d57) hl)⟩
end New4
namespace New1
def yN : MethodName := ⟨"java/lang/String", "<init>", "([C)V"⟩
abbrev yB : ByteArray := jdk_42_method_3_code
theorem d0 : decode yB 0 = .ok (.aload_n 0, 1) := by decide +kernel
theorem d1 : decode yB 1 = .ok (.aload_n 1, 1) := by decide +kernel
theorem d2 : decode yB 2 = .ok (.iconst 0, 1) := by decide +kernel
theorem d3 : decode yB 3 = .ok (.aload_n 1, 1) := by decide +kernel
theorem d4 : decode yB 4 = .ok (.arraylength, 1) := by decide +kernel
theorem d5 : decode yB 5 = .ok (.aconst_null, 1) := by decide +kernel
theorem d6 : decode yB 6 = .ok (.invokespecial 27, 3) := by decide +kernel
theorem d9 : decode yB 9 = .ok (.return_, 1) := by decide +kernel
def site : List Cond := [New4.tab] ++ initW "java/lang/String" 27 New4.yN
def tab : Cond := tabOf yN yB 2 none site
def P (a : Addr) (D : Cell) (fV fC : Field) (b : Addr) (A : Cell) (z : Int32) (args : Array Value) (s : State) : Prop := args = #[.ref a, .ref b] ∧ Blank "java/lang/String" a D s ∧ Found "java/lang/String" "value" "[B" fV s ∧ Found "java/lang/String" "coder" "B" fC s ∧ Ch b A s ∧ StaticIs s "java/lang/String" "COMPACT_STRINGS" "Z" (.int z) ∧ ¬ z = 0 ∧ 0 < A.slots.size ∧ A.slots.size ≤ 536870912 ∧ ∀ i, i < A.slots.size → ¬ 255 < cv A i
def E (a : Addr) (D : Cell) (fV fC : Field) (A : Cell) (r : Option Value) (s u : State) : Prop := Got a D fV fC A 0 A.slots.size r s u
/-- new String(chars), not empty, no char above 255: a Latin-1 String of their low bytes -/
theorem law (l : Launch) (a : Addr) (D : Cell) (fV fC : Field) (b : Addr) (A : Cell) (z : Int32) : Law l yN 2 1 3 52 yB 2 none site (P a D fV fC b A z) (E a D fV fC A) [⟨a, fC.slot⟩, ⟨a, fV.slot⟩] 1 A.slots.size := by
  refine Law.of_walk (plainFor_of_name (by decide +kernel)) (by decide +kernel) (by decide +kernel) (by decide) (fun _ _ h => by rw [h.1]; rfl) (fun _ U U' hal hh h => ⟨h.1, h.2.1.mv hal hh, h.2.2.1.al hal, h.2.2.2.1.al hal, h.2.2.2.2.1.mv hal hh, h.2.2.2.2.2.1.there hal hh, h.2.2.2.2.2.2⟩) (fun r U U' V V' h1 hal h2 h => Got.mv r U U' V V' h1 hal h2 h) ?_
  intro p e s m args below meth c s₁ X0 hexec hbytes hml hret hlk hnm hown hh0 W hP
  obtain ⟨rfl, hB, f1, f2, hA, s1, hz, l0, l2, hp⟩ := hP
  have c1 : Steps p.tables e below (s₁.setTop (entryFrame m #[.ref a, .ref b] 2)) (s₁.setTop (mkF m 0 #[.val (.ref a), .val (.ref b)] [])) := entry rfl
  have c2 : Steps p.tables e below (s₁.setTop (entryFrame m #[.ref a, .ref b] 2)) (s₁.setTop (mkF m 6 #[.val (.ref a), .val (.ref b)] [.null, .int (Int32.ofNat A.slots.size), .int 0, .ref b, .ref a])) := c1.trans (by
    refine XS.aloadN X0.here hexec rfl (hb hbytes d0) rfl rfl ?_
    refine XS.aloadN X0.here hexec rfl (hb hbytes d1) rfl rfl ?_
    refine iconstV X0.here hexec rfl 0 (hb hbytes d2) (by decide) ?_
    refine XS.aloadN X0.here hexec rfl (hb hbytes d3) rfl rfl ?_
    refine X0.alen hexec (hA.1.mv X0.warmed.alike hh0) rfl rfl (hb hbytes d4) ?_
    refine XS.aconstNull X0.here hexec rfl (hb hbytes d5) ?_
    exact Steps.refl _)
  obtain ⟨v3, T3, X3, E3, g3⟩ := X0.callN hexec (New4.law l a D fV fC b A z 0 A.slots.size) rfl hown (wks W (initW "java/lang/String" 27 New4.yN)) (W New4.tab (by simp only [site, List.mem_cons, List.mem_append, true_or, or_true])) (W := 0) (Nat.le_of_ble_eq_true rfl) (Nat.le_of_ble_eq_true rfl) (Nat.le_refl _) (by show 0 + A.slots.size ≤ A.slots.size; omega) (g := (mkF m 6 #[.val (.ref a), .val (.ref b)] [.null, .int (Int32.ofNat A.slots.size), .int (Int32.ofNat 0), .ref b, .ref a])) rfl (by rw [hml]; rfl) c2 (argsL := [.ref b, .int (Int32.ofNat 0), .int (Int32.ofNat A.slots.size), .null]) (rest := []) rfl rfl (by show 2 * 0 + 0 ≤ _; decide) (hb hbytes d6) (⟨rfl, hB.mv X0.warmed.alike hh0, f1.al X0.warmed.alike, f2.al X0.warmed.alike, hA.mv X0.warmed.alike hh0, s1.there X0.warmed.alike hh0, hz, l0, by omega, l2, fun i hi => by rw [Nat.zero_add]; exact hp i hi⟩)
  have e0 := Got.mv _ s₁ s _ _ hh0.symm (Vm.Alike.refl _) rfl E3
  obtain rfl := e0.1
  have c4 : Steps p.tables e below (s₁.setTop (entryFrame m #[.ref a, .ref b] 2)) (T3.setTop (mkF m 9 #[.val (.ref a), .val (.ref b)] [])) := g3
  exact ⟨T3, none, _, _, _, X3, by simp, rfl, by omega, (fun _ => rfl), e0, fun fs hl => c4.trans (X3.returnOut hexec hret (hb hbytes d9) hl)⟩
theorem pays {l : Launch} {R : Room} {p : Program} {e : Env} {below : List Frame} {s : State} {sargs : Array Value} {len W : Nat} (a : Addr) (D : Cell) (fV fC : Field) (b : Addr) (A : Cell) (z : Int32) (htab : tab.before sargs s = true) (hfr : 4 ≤ R.frames) (hlo : W + 65 ≤ R.locals) :
    Back l R p e below s sargs yN len W (fun A₁ a₁ => A₁.cells + 1 ≤ R.cells ∧ A₁.slots + A.slots.size ≤ R.slots ∧ P a D fV fC b A z a₁ A₁.U) (fun A₁ _ v₁ B₁ => E a D fV fC A v₁ A₁.U B₁.U ∧ B₁.locs = A₁.locs ++ [⟨a, fC.slot⟩, ⟨a, fV.slot⟩] ∧ B₁.cells = A₁.cells + 1 ∧ B₁.slots = A₁.slots + A.slots.size) :=
  (law l a D fV fC b A z).pays htab hfr (by omega)
end New1
end StrChars
namespace StrChars.Road
open Jvm Sem ClassFile Op Lib Jvm.Stand Jvm.Free Jvm.Free.XT
open Jvm.Lib.Cold (StaticIs)
abbrev ST : String := "java/lang/String"
/-- every table word that New1's law asks, flat -/
abbrev words : List Jvm.Cond := [.code New1.yN New1.yB 2 none, .initialized ST, .methodLink ST 27 New4.yN, .instanceMethod New4.yN,
  .code New4.yN New4.yB 6 none, .fieldLink ST 38 ST "COMPACT_STRINGS" "Z", .laysFinal ST ST "value" "[B", .fieldLink ST 9 ST "value" "[B", .laysFinal ST ST "coder" "B", .fieldLink ST 15 ST "coder" "B",
  .methodLink ST 1 Lib.objectInit, .instanceMethod Lib.objectInit, .code Lib.objectInit ⟨#[0xb1]⟩ 1 none, .methodLink ST 177 Cmp3.yN, .static Cmp3.yN, .methodLink ST 47 CodL.yN, .static CodL.yN,
  .code Cmp3.yN Cmp3.yB 6 (some (.array .byte)), .initialized U16, .arrayClass .byte, .methodLink U16 115 Cmp5.yN, .static Cmp5.yN, .code Cmp5.yN Cmp5.yB 7 (some .int), .code CodL.yN CodL.yB 2 (some .byte)]
theorem tab_of {a : Array Value} {s : State} (h : ∀ w ∈ words, w.before a s = true) : New1.tab.before a s = true := by
  have h5 : Cmp5.tab.before a s = true := unparts (wk h (.code Cmp5.yN Cmp5.yB 7 (some .int))) (wks h (.initialized Cmp5.yN.cls :: Cmp5.site))
  have hc : CodL.tab.before a s = true := unparts (wk h (.code CodL.yN CodL.yB 2 (some .byte))) (wks h (.initialized CodL.yN.cls :: CodL.site))
  have q5 : ∀ w ∈ Cmp5.tab :: words, w.before a s = true := fun w hw => (List.mem_cons.mp hw).elim (fun e => e ▸ h5) (h w)
  have h3 : Cmp3.tab.before a s = true := unparts (wk q5 (.code Cmp3.yN Cmp3.yB 6 (some (.array .byte)))) (wks q5 (.initialized Cmp3.yN.cls :: Cmp3.site))
  have q3 : ∀ w ∈ Cmp3.tab :: CodL.tab :: words, w.before a s = true := fun w hw => (List.mem_cons.mp hw).elim (fun e => e ▸ h3) fun hw => (List.mem_cons.mp hw).elim (fun e => e ▸ hc) (h w)
  have h4 : New4.tab.before a s = true := unparts (wk q3 (.code New4.yN New4.yB 6 none)) (wks q3 (.initialized New4.yN.cls :: New4.site))
  have q4 : ∀ w ∈ New4.tab :: words, w.before a s = true := fun w hw => (List.mem_cons.mp hw).elim (fun e => e ▸ h4) (h w)
  exact unparts (wk q4 (.code New1.yN New1.yB 2 none)) (wks q4 (.initialized New1.yN.cls :: New1.site))
/-- the words ride from the start Z to the walk's own state -/
theorem moved {Z s : State} {a0 args : Array Value} (hZ : Z.Warmed39 s.vm) (hw : ∀ d ∈ words, d.before a0 Z = true) : ∀ d ∈ words, d.before args s = true := fun d hd => by
  have q := hw d hd
  have t : ∀ d ∈ words, d = .arrayClass .byte ∨ (d.onTables && d.keepsFace) = true := by decide +kernel
  rcases t d hd with rfl | t
  · exact RoadKit.mvA hZ q
  · exact RoadKit.mv hZ q t
/-- WHAT COMES BACK, over the tables of the start Z: h the heap at the call, h' behind it -/
def Q (Z : State) (x : Addr) (A : Cell) (h : Heap) (v : Option Value) (h' : Heap) (L : List Loc) : Prop := v = none ∧ (∀ y ∈ L, y.base = x) ∧ RoadKit.Keep h h' [x] ∧ h'.size = h.size + 1 ∧ RoadKit.Exa Z h' x ST ∧ RoadKit.Fld Z h' x ST "value" "[B" (.ref h.size) ∧ RoadKit.Fld Z h' x ST "coder" "B" (.int 0) ∧
  (∃ V : Cell, RoadKit.Arr Z h' h.size V .byte ∧ V.vm = .none ∧ Z.vm.findClass "[B" = some V.cls ∧ V.slots.size = A.slots.size ∧ ∀ j, j < A.slots.size → V.slots[j]? = some (.int (lo8 (cv A j)))) ∧
  ∀ (O n d : String) (w : Value), RoadKit.Fld Z h x O n d w → RoadKit.slotOf Z O n d ≠ RoadKit.slotOf Z ST "value" "[B" → RoadKit.slotOf Z O n d ≠ RoadKit.slotOf Z ST "coder" "B" → RoadKit.Fld Z h' x O n d w
/-- **new String(chars) AT A CALL, IN THE ROAD'S FORM**: for specialBack behind newO: x the fresh String, b the char[] with the cell A -/
theorem back {p : Program} {l : Launch} {e : Env} {R : Room} {s : State} {args : Array Value} {below : List Frame} {len W : Nat} {Z : State} {a0 : Array Value} {h : Heap} (hZ : Z.Warmed39 s.vm) (hw : ∀ d ∈ words, d.before a0 Z = true) {kI : Nat} (wi : (Jvm.Cond.instantiable ST kI).before a0 Z = true)
    {x b : Addr} {A : Cell} {z : Int32} {v0 c0 : Value} (E : RoadKit.Exa Z h x ST) (V : RoadKit.Fld Z h x ST "value" "[B" v0) (C : RoadKit.Fld Z h x ST "coder" "B" c0) (K : RoadKit.Arr Z h b A .char) (hty : Typed .char A) (S : RoadKit.Sta Z h ST "COMPACT_STRINGS" "Z" (.int z)) (hz : ¬ z = 0)
    (l0 : 0 < A.slots.size) (l2 : A.slots.size ≤ 536870912) (hp : ∀ i, i < A.slots.size → ¬ 255 < cv A i) (hfr : 4 ≤ R.frames) (hlo : W + 65 ≤ R.locals) :
    Back l R p e below s args New1.yN len W (fun P a => a = #[.ref x, .ref b] ∧ P.U.heap = h ∧ P.cells + 1 ≤ R.cells ∧ P.slots + A.slots.size ≤ R.slots)
      (fun P _ v B => ∃ L, Q Z x A h v B.U.heap L ∧ B.locs = P.locs ++ L ∧ B.cells = P.cells + 1 ∧ B.slots = P.slots + A.slots.size) := by
  intro m meth c P g ig mk a X hg hsize hdg hW hn hp'
  obtain ⟨rfl, rfl, r1, r2⟩ := hp'
  have al : Z.vm.Alike P.U.vm := hZ.alike.trans X.warmed.alike
  obtain ⟨D, cfV, kV, iV, fV, hD, gV, stV, knV, obV, asV, slV⟩ := id V
  obtain ⟨D', cfC, kC, iC, fC, hD', gC, stC, -, -, asC, slC⟩ := id C
  cases hD.symm.trans hD'
  obtain ⟨D2, kD, e1, e2, e3, e4, e5⟩ := id E
  cases hD.symm.trans e1
  obtain ⟨c2, k2, i1, i2, i3, -⟩ := Cond.instantiable_spec wi
  cases e2.symm.trans i1
  cases e3.symm.trans i2
  obtain ⟨kU, u1, u2⟩ := al.2.2 _ _ e3
  have hB : Blank ST x D P.U := ⟨hD, ⟨knV, fun q hq => by rw [hq] at obV; cases obV⟩, by rw [al.findClass]; exact e2, kU, u1, by rw [u2]; exact i3, by rw [u2]; exact e5 i3⟩
  have F1 : Found ST "value" "[B" fV P.U := ⟨SBG.found_only al ⟨cfV, kV, iV, gV⟩, stV⟩
  have F2 : Found ST "coder" "B" fC P.U := ⟨SBG.found_only al ⟨cfC, kC, iC, gC⟩, stC⟩
  have hA : Ch b A P.U := ⟨⟨K.1, State.isArrayOf_alike al K.2.1, K.2.2, by omega⟩, hty⟩
  have hS : StaticIs P.U ST "COMPACT_STRINGS" "Z" (.int z) := by
    obtain ⟨cfS, iS, kS, fS, st, cS, t1, t2, t3, t4, t5, t6, t7⟩ := S
    exact StaticIs.there (s := { Z with heap := P.U.heap }) ⟨cfS, iS, kS, fS, st, cS, t1, t2, t3, t4, t5, (fun q => by rw [q] at t6; cases t6), t7⟩ al rfl
  obtain ⟨v, B, X', ⟨⟨hv, E', V', q1, q2, q3, q4, q5, q6, q7, q8, q9, q10, q11⟩, hl, hc, hs⟩, st⟩ := New1.pays x D fV fC b A z (tab_of (moved hZ hw)) hfr hlo m meth c P g ig mk _ X hg hsize hdg hW hn ⟨r1, r2, rfl, hB, F1, F2, hA, hS, hz, l0, l2, hp⟩
  have al' : Z.vm.Alike B.U.vm := hZ.alike.trans X'.warmed.alike
  have hsz : E'.slots.size = D.slots.size := by
    obtain ⟨-, -, -, kB, w1, w2, w3⟩ := q1
    obtain ⟨kB', y1, y2⟩ := al'.2.2 _ _ e3
    rw [q2.2.1] at w1
    cases w1.symm.trans y1
    rw [w3, e5 i3, y2]
  refine ⟨v, B, X', ⟨_, ⟨hv, ?_, ⟨by omega, fun y cy hy hn' => q10 y cy (by simpa using hn') hy, fun y cy hy => ?_⟩, q11, ⟨E', _, q1.1, by rw [q2.2.1]; exact e2, by rw [q2.2.1]; exact e3, by rw [q2.1]; exact obV, fun _ => by rw [hsz]; exact e5 i3⟩,
    ⟨E', cfV, kV, iV, fV, q1.1, gV, stV, by rw [q2.1]; exact knV, by rw [q2.1]; exact obV, by rw [q2.2.1]; exact asV, q3⟩, ⟨E', cfC, kC, iC, fC, q1.1, gC, stC, by rw [q2.1]; exact knV, by rw [q2.1]; exact obV, by rw [q2.2.1]; exact asC, q4⟩,
    ⟨V', ⟨q5.1, State.isArrayOf_alike al'.symm q5.2.1, q5.2.2.1⟩, q6, by rw [← al'.findClass]; exact q7, q8, fun j hj => by have := q9 j hj; rwa [Nat.zero_add] at this⟩, fun O n d w F n1 n2 => ?_⟩, hl, hc, hs⟩, st⟩
  · intro y hy
    simp only [List.mem_cons, List.not_mem_nil, or_false] at hy
    rcases hy with rfl | rfl <;> rfl
  · by_cases q : y = x
    · subst q
      cases hD.symm.trans hy
      exact ⟨E', q1.1, q2.2.1, q2.1, hsz⟩
    · exact ⟨cy, q10 y cy q hy, rfl, rfl, rfl⟩
  · obtain ⟨D3, cf, k, i, f, g1, g2, g3, g4, g5, g6, g7⟩ := F
    cases hD.symm.trans g1
    simp only [RoadKit.slotOf, g2, gV, gC, Option.map_some, Option.getD_some] at n1 n2
    exact ⟨E', cf, k, i, f, q1.1, g2, g3, by rw [q2.1]; exact g4, by rw [q2.1]; exact g5, by rw [q2.2.1]; exact g6, by rw [q2.2.2 f.slot (by simp [n1, n2])]; exact g7⟩
end StrChars.Road
namespace StrChars.Road
open Jvm Sem ClassFile Op Lib Jvm.Stand Jvm.Free Jvm.Free.XT
/-- WHAT COMES BACK, the byte[] as a list of values -/
def QA (Z : State) (x : Addr) (zn : Int32) (cs : List Int32) (h : Heap) (v : Option Value) (h' : Heap) (L : List Loc) : Prop := v = none ∧ (∀ y ∈ L, y.base = x) ∧ RoadKit.Keep h h' [x] ∧ h'.size = h.size + 1 ∧ RoadKit.Exa Z h' x ST ∧ RoadKit.Fld Z h' x ST "value" "[B" (.ref h.size) ∧ RoadKit.Fld Z h' x ST "coder" "B" (.int 0) ∧
  (∃ kb, Z.vm.findClass "[B" = some kb ∧ RoadKit.Arv Z h' h.size kb .byte zn (cs.map fun c => .int (lo8 c)) (.int 0)) ∧
  ∀ (O n d : String) (w : Value), RoadKit.Fld Z h x O n d w → RoadKit.slotOf Z O n d ≠ RoadKit.slotOf Z ST "value" "[B" → RoadKit.slotOf Z O n d ≠ RoadKit.slotOf Z ST "coder" "B" → RoadKit.Fld Z h' x O n d w
/-- **new String(chars) AT A CALL, THE ARRAYS AS LISTS**: the char[] at b holds cs, not empty, no char above 255 -/
theorem backArv {p : Program} {l : Launch} {e : Env} {R : Room} {s : State} {args : Array Value} {below : List Frame} {len W : Nat} {Z : State} {a0 : Array Value} {h : Heap} (hZ : Z.Warmed39 s.vm) (hw : ∀ d ∈ words, d.before a0 Z = true) {kI : Nat} (wi : (Jvm.Cond.instantiable ST kI).before a0 Z = true)
    {x b : Addr} {k : ClassId} {zn z : Int32} {cs : List Int32} {dv v0 c0 : Value} (E : RoadKit.Exa Z h x ST) (V : RoadKit.Fld Z h x ST "value" "[B" v0) (C : RoadKit.Fld Z h x ST "coder" "B" c0) (K : RoadKit.Arv Z h b k .char zn (cs.map Value.int) dv) (S : RoadKit.Sta Z h ST "COMPACT_STRINGS" "Z" (.int z)) (hz : ¬ z = 0)
    (hlen : zn.toNatClampNeg = cs.length) (h0 : 0 < cs.length) (hbig : cs.length ≤ 536870912) (hall : ∀ c ∈ cs, ¬ 255 < c) (hfr : 4 ≤ R.frames) (hlo : W + 65 ≤ R.locals) :
    Back l R p e below s args New1.yN len W (fun P a => a = #[.ref x, .ref b] ∧ P.U.heap = h ∧ P.cells + 1 ≤ R.cells ∧ P.slots + cs.length ≤ R.slots)
      (fun P _ v B => ∃ L, QA Z x zn cs h v B.U.heap L ∧ B.locs = P.locs ++ L ∧ B.cells = P.cells + 1 ∧ B.slots = P.slots + cs.length) := by
  obtain ⟨A, K1, K2, K3, K4, K5, K6⟩ := K
  have e : A.slots.size = cs.length := K3.trans hlen
  have hat : ∀ (i : Nat) (hi : i < cs.length), A.slots[i]? = some (.int cs[i]) := fun i hi => by rw [K5 i (by omega)]; simp [List.getD_eq_getElem?_getD, hi]
  have hcv : ∀ (i : Nat) (hi : i < cs.length), cv A i = cs[i] := fun i hi => by unfold cv; rw [hat i hi]
  have hty : Typed .char A := fun i v hv => by
    have hi : i < A.slots.size := (Array.getElem?_eq_some_iff.mp hv).1
    have q := K5 i hi
    rw [hv] at q
    rw [Option.some.inj q]
    exact K6 i hi
  refine Back.mono (back hZ hw wi E V C K1 hty S hz (by omega) (by omega) (fun i hi => by rw [hcv i (by omega)]; exact hall _ (List.getElem_mem _)) hfr hlo) (fun P a hp => ⟨hp.1, hp.2.1, hp.2.2.1, by rw [e]; exact hp.2.2.2⟩) (fun P a v B hp hq => ?_)
  obtain ⟨L, ⟨q1, q2, q3, q4, q5, q6, q7, ⟨V', v1, v2, v3, v4, v5⟩, q9⟩, hl, hc, hs⟩ := hq
  refine ⟨L, ⟨q1, q2, q3, q4, q5, q6, q7, ⟨V'.cls, v3, V', v1, rfl, by rw [v4, e, hlen], K4, fun i hi => ?_, fun i hi => ?_⟩, q9⟩, hl, hc, by rw [hs, e]⟩
  · have hi' : i < cs.length := by omega
    rw [v5 i (by omega), hcv i hi']; simp [List.getD_eq_getElem?_getD, hi']
  · have hi' : i < cs.length := by omega
    simp only [List.getD_eq_getElem?_getD, List.getElem?_map, List.getElem?_eq_getElem hi', Option.map_some, Option.getD_some]
    exact fits_lo8 _
end StrChars.Road
namespace StrChars.Road
open Jvm Sem ClassFile Op Lib Jvm.Stand Jvm.Free Jvm.Free.XT
/-- WHAT COMES BACK, in the writer's own shape -/
def QV (Z : State) (x : Addr) (N : Int32) (bs : List Int32) (h : Heap) (n0 : Nat) (v : Option Value) (h' : Heap) (L : List Loc) : Prop := v = none ∧ RoadKit.Fr n0 L ∧ RoadKit.Keep h h' [x] ∧ RoadKit.Exa Z h' x ST ∧ RoadKit.Fld Z h' x ST "coder" "B" (.int 0) ∧
  ∃ (t : Addr) (kb : ClassId), n0 ≤ t ∧ h.size ≤ t ∧ ¬ t = x ∧ RoadKit.Fld Z h' x ST "value" "[B" (.ref t) ∧ RoadKit.Arv Z h' t kb .byte N (bs.map Value.int) (.int 0)
/-- **new String(chars) AT A CALL, FOR THE WRITER**: a char[] of n known ints, each 0 to 255 -/
theorem backV {p : Program} {l : Launch} {e : Env} {R : Room} {s : State} {args : Array Value} {below : List Frame} {len W : Nat} {Z : State} {a0 : Array Value} {h : Heap} (hZ : Z.Warmed39 s.vm) (hw : ∀ d ∈ words, d.before a0 Z = true) {kI : Nat} (wi : (Jvm.Cond.instantiable ST kI).before a0 Z = true)
    {x b : Addr} {kC : ClassId} {cs bs : List Int32} {d v0 c0 : Value} {z N : Int32} {n n0 : Nat} (hx0 : n0 ≤ x) (hh0 : n0 ≤ h.size) (E : RoadKit.Exa Z h x ST) (V : RoadKit.Fld Z h x ST "value" "[B" v0) (C : RoadKit.Fld Z h x ST "coder" "B" c0) (K : RoadKit.Arv Z h b kC .char N (cs.map Value.int) d) (S : RoadKit.Sta Z h ST "COMPACT_STRINGS" "Z" (.int z)) (hz : ¬ z = 0)
    (hn : cs.length = n) (hN : N = Int32.ofNat n) (l0 : 0 < n) (l2 : n ≤ 4000) (hp : ∀ c ∈ cs, ¬ c < 0 ∧ ¬ (255 : Int32) < c) (hb : bs = cs.map (fun c => c.toInt8.toInt32)) (hfr : 4 ≤ R.frames) (hlo : W + 65 ≤ R.locals) :
    Back l R p e below s args (⟨"java/lang/String", "<init>", "([C)V"⟩ : MethodName) len W (fun P a => a = #[.ref x, .ref b] ∧ P.U.heap = h ∧ P.cells + 1 ≤ R.cells ∧ P.slots + n ≤ R.slots)
      (fun P _ v B => ∃ L, QV Z x N bs h n0 v B.U.heap L ∧ B.locs = P.locs ++ L ∧ B.cells = P.cells + 1 ∧ B.slots = P.slots + n) := by
  subst hn hN hb
  refine Back.mono (backArv hZ hw wi E V C K S hz (n32 (by omega)) l0 (by omega) (fun c hc => (hp c hc).2) hfr hlo) (fun P a hp => hp) (fun P a v B hp hq => ?_)
  obtain ⟨L, ⟨q1, q2, q3, q4, q5, q6, q7, ⟨kb, v1, v2⟩, q9⟩, hl, hc, hs⟩ := hq
  exact ⟨L, ⟨q1, fun y hy => by rw [q2 y hy]; exact hx0, q3, q5, q7, h.size, kb, hh0, Nat.le_refl _, Nat.ne_of_gt E.lt, q6, by rw [List.map_map]; exact v2⟩, hl, hc, hs⟩
end StrChars.Road
namespace StrChars
open Jvm Sem ClassFile Op Lib Jvm.Stand Jvm.Free.XT Jvm.Free.ALB Jvm.Free.JM Jvm.Free
open Jvm.Lib.Cold (StaticIs)
def hi8 (x : Int32) : Int32 := lo8 (x >>> ((8 : Int32) &&& 31))
end StrChars
namespace StrChars
open Jvm Sem ClassFile Op Lib Jvm.Stand Jvm.Free.XT Jvm.Free.ALB Jvm.Free.JM Jvm.Free
open Jvm.Lib.Cold (StaticIs)
/-- the array's cell V codes the n chars f 0 .. f (n - 1) by the coder cd, as the JDK does: coder 1 just where some char is above 255 -/
def Cod (cd : Int32) (n : Nat) (f : Nat → Int32) (V : Cell) : Prop := (cd = 0 ∧ V.slots.size = n ∧ ∀ j, j < n → V.slots[j]? = some (.int (lo8 (f j))) ∧ ¬ 255 < f j) ∨ (cd = 1 ∧ V.slots.size = 2 * n ∧ (∀ j, j < n → V.slots[2 * j]? = some (.int (lo8 (f j))) ∧ V.slots[2 * j + 1]? = some (.int (hi8 (f j)))) ∧ ∃ j, j < n ∧ 255 < f j)
/-- **x is a String of the n chars f 0 .. f (n - 1)**, Latin-1 or UTF-16; its array at t has the cell V -/
def Txt (x t : Addr) (V : Cell) (cd : Int32) (n : Nat) (f : Nat → Int32) (U : State) : Prop := Exact "java/lang/String" x U ∧ Has x "java/lang/String" "value" "[B" (.ref t) U ∧ Has x "java/lang/String" "coder" "B" (.int cd) U ∧ XT.Arr .byte t V U ∧ Cod cd n f V ∧ ∀ j, j < n → ¬ f j < 0 ∧ ¬ 65535 < f j
theorem Txt.mv {x t : Addr} {V : Cell} {cd : Int32} {n : Nat} {f : Nat → Int32} {U U' : State} (h : Txt x t V cd n f U) (hal : U.vm.Alike U'.vm) (hh : U'.heap = U.heap) : Txt x t V cd n f U' := ⟨h.1.mv hal hh, h.2.1.mv hal hh, h.2.2.1.mv hal hh, h.2.2.2.1.mv hal hh, h.2.2.2.2⟩
end StrChars
namespace StrChars.Road
open Jvm Sem ClassFile Op Lib Jvm.Stand Jvm.Free Jvm.Free.XT
open Jvm.Lib.Cold (StaticIs)
/-- the bytes of the chars cs, low before high -/
def wideBytes : List Int32 → List Value
  | [] => []
  | c :: cs => .int (lo8 c) :: .int (hi8 c) :: wideBytes cs
theorem wide_lo (d : Value) : ∀ (cs : List Int32) (j : Nat), j < cs.length → (wideBytes cs).getD (2 * j) d = .int (lo8 (cs.getD j 0))
  | [], j, h => absurd h (Nat.not_lt_zero j)
  | c :: cs, 0, _ => rfl
  | c :: cs, j + 1, h => by
    have q := wide_lo d cs j (by simpa using h)
    rw [show 2 * (j + 1) = 2 * j + 1 + 1 from by omega]
    simpa [wideBytes] using q
theorem wide_hi (d : Value) : ∀ (cs : List Int32) (j : Nat), j < cs.length → (wideBytes cs).getD (2 * j + 1) d = .int (hi8 (cs.getD j 0))
  | [], j, h => absurd h (Nat.not_lt_zero j)
  | c :: cs, 0, _ => rfl
  | c :: cs, j + 1, h => by
    have q := wide_hi d cs j (by simpa using h)
    rw [show 2 * (j + 1) + 1 = 2 * j + 1 + 1 + 1 from by omega]
    simpa [wideBytes] using q
theorem low_at (d : Value) (cs : List Int32) (j : Nat) (h : j < cs.length) : (cs.map fun c => Value.int (lo8 c)).getD j d = .int (lo8 (cs.getD j 0)) := by
  simp [List.getD_eq_getElem?_getD, h]
/-- an array of N2 bytes vs codes the chars cs by the coder cd -/
def CodA (cs : List Int32) (cd N2 : Int32) (vs : List Value) : Prop := (cd = 0 ∧ N2 = Int32.ofNat cs.length ∧ vs = (cs.map fun c => Value.int (lo8 c)) ∧ ∀ c ∈ cs, ¬ 255 < c) ∨ (cd = 1 ∧ N2 = Int32.ofNat (2 * cs.length) ∧ vs = wideBytes cs ∧ ∃ c ∈ cs, 255 < c)
theorem CodA.cod {cs : List Int32} {cd N2 : Int32} {vs : List Value} {V : Cell} (h : CodA cs cd N2 vs) (hn : 2 * cs.length < 2 ^ 31) (hs : V.slots.size = N2.toNatClampNeg) (hv : RoadKit.Has V vs (.int 0)) : Cod cd cs.length (fun j => cs.getD j 0) V := by
  rcases h with ⟨rfl, rfl, rfl, h⟩ | ⟨rfl, rfl, rfl, c, hc, hw⟩
  · rw [n32 (by omega)] at hs
    exact Or.inl ⟨rfl, hs, fun j hj => ⟨by rw [hv j (by omega), low_at _ _ _ hj], by
      have e : cs.getD j 0 = cs[j] := by simp [List.getD_eq_getElem?_getD, hj]
      show ¬ 255 < cs.getD j 0
      rw [e]; exact h _ (List.getElem_mem _)⟩⟩
  · rw [n32 (by omega)] at hs
    obtain ⟨j, hj, rfl⟩ := List.getElem_of_mem hc
    exact Or.inr ⟨rfl, hs, fun j hj => ⟨by rw [hv _ (by omega), wide_lo _ _ _ hj], by rw [hv _ (by omega), wide_hi _ _ _ hj]⟩, j, hj, by
      have e : cs.getD j 0 = cs[j] := by simp [List.getD_eq_getElem?_getD, hj]
      show 255 < cs.getD j 0
      rw [e]; exact hw⟩
/-- an object of exactly java/lang/String, its two fields found: as the laws ask it -/
theorem strObj {Z U : State} {a0 : Array Value} {kI : Nat} (wi : (Jvm.Cond.instantiable ST kI).before a0 Z = true) (al : Z.vm.Alike U.vm) {x : Addr} {v0 c0 : Value} (E : RoadKit.Exa Z U.heap x ST) (V : RoadKit.Fld Z U.heap x ST "value" "[B" v0) (C : RoadKit.Fld Z U.heap x ST "coder" "B" c0) :
    ∃ (D : Cell) (fV fC : Field), Blank ST x D U ∧ Found ST "value" "[B" fV U ∧ Found ST "coder" "B" fC U ∧ D.slots[fV.slot]? = some v0 ∧ D.slots[fC.slot]? = some c0 ∧ RoadKit.slotOf Z ST "value" "[B" = fV.slot ∧ RoadKit.slotOf Z ST "coder" "B" = fC.slot := by
  obtain ⟨D, cfV, kV, iV, fV, hD, gV, stV, knV, obV, asV, slV⟩ := V
  obtain ⟨D', cfC, kC, iC, fC, hD', gC, stC, -, -, asC, slC⟩ := C
  cases hD.symm.trans hD'
  obtain ⟨D2, kD, e1, e2, e3, e4, e5⟩ := E
  cases hD.symm.trans e1
  obtain ⟨c2, k2, i1, i2, i3, -⟩ := Cond.instantiable_spec wi
  cases e2.symm.trans i1
  cases e3.symm.trans i2
  obtain ⟨kU, u1, u2⟩ := al.2.2 _ _ e3
  exact ⟨D, fV, fC, ⟨hD, ⟨knV, fun q hq => by rw [hq] at obV; cases obV⟩, by rw [al.findClass]; exact e2, kU, u1, by rw [u2]; exact i3, by rw [u2]; exact e5 i3⟩, ⟨SBG.found_only al ⟨cfV, kV, iV, gV⟩, stV⟩, ⟨SBG.found_only al ⟨cfC, kC, iC, gC⟩, stC⟩, slV, slC, by simp [RoadKit.slotOf, gV], by simp [RoadKit.slotOf, gC]⟩
end StrChars.Road
namespace StrChars
open Jvm Sem ClassFile Op Lib Jvm.Stand Jvm.Free.XT Jvm.Free.ALB Jvm.Free.JM Jvm.Free
open Jvm.Lib.Cold (StaticIs)
namespace Emp
def yN : MethodName := ⟨"java/lang/String", "isEmpty", "()Z"⟩
abbrev yB : ByteArray := jdk_42_method_55_code
theorem d0 : decode yB 0 = .ok (.aload_n 0, 1) := by decide +kernel
theorem d1 : decode yB 1 = .ok (.getfield 9, 3) := by decide +kernel
theorem d4 : decode yB 4 = .ok (.arraylength, 1) := by decide +kernel
theorem d5 : decode yB 5 = .ok (.ifCond (.ne) 7, 3) := by decide +kernel
theorem d8 : decode yB 8 = .ok (.iconst 1, 1) := by decide +kernel
theorem d9 : decode yB 9 = .ok (.goto 4, 3) := by decide +kernel
theorem d12 : decode yB 12 = .ok (.iconst 0, 1) := by decide +kernel
theorem d13 : decode yB 13 = .ok (.ireturn, 1) := by decide +kernel
def site : List Cond := [.fieldLink "java/lang/String" 9 "java/lang/String" "value" "[B"]
def tab : Cond := tabOf yN yB 1 (some .boolean) site
def P (x t : Addr) (V : Cell) (cd : Int32) (n : Nat) (f : Nat → Int32) (args : Array Value) (s : State) : Prop := args = #[.ref x] ∧ Txt x t V cd n f s
def E (n : Nat) (r : Option Value) (s u : State) : Prop := XT.PureE (some (.int (if n = 0 then 1 else 0))) r s u
/-- isEmpty() of a String of n chars -/
theorem law (l : Launch) (x t : Addr) (V : Cell) (cd : Int32) (n : Nat) (f : Nat → Int32) : Law l yN 1 0 0 0 yB 1 (some .boolean) site (P x t V cd n f) (E n) [] 0 0 := by
  refine Law.of_walk (plainFor_of_name (by decide +kernel)) (by decide +kernel) (by decide +kernel) (by decide) (fun _ _ h => by rw [h.1]; rfl) (fun _ U U' hal hh h => ⟨h.1, h.2.mv hal hh⟩) (fun r U U' V V' h1 hal h2 h => XT.PureE.mv r U U' V V' h1 hal h2 h) ?_
  intro p e s m args below meth c s₁ X0 hexec hbytes hml hret hlk hnm hown hh0 W hP
  obtain ⟨rfl, hx⟩ := hP
  have v31 := hx.2.2.2.1.2.2.2
  have c1 : Steps p.tables e below (s₁.setTop (entryFrame m #[.ref x] 1)) (s₁.setTop (mkF m 1 #[.val (.ref x)] [.ref x])) := Steps.trans (entry rfl) (by
    show Steps p.tables e below (s₁.setTop (mkF m 0 #[.val (.ref x)] [])) _
    refine XS.aloadN X0.here hexec rfl (hb hbytes d0) rfl rfl ?_
    exact Steps.refl _)
  obtain ⟨T2, X2, q2, st2⟩ := X0.hget hexec hown (wk W (.fieldLink "java/lang/String" 9 "java/lang/String" "value" "[B")) (hx.mv X0.warmed.alike hh0).2.1 (g := (mkF m 1 #[.val (.ref x)] [.ref x])) rfl (rest := []) rfl (hb hbytes d1)
  have hh2 := q2.trans hh0
  have hx2 := hx.mv X2.warmed.alike hh2
  have c3 : Steps p.tables e below (s₁.setTop (entryFrame m #[.ref x] 1)) (T2.setTop (mkF m 5 #[.val (.ref x)] [.int (Int32.ofNat V.slots.size)])) := (c1.trans (st2 _ (Steps.refl _))).trans (by
    refine X2.alen hexec hx2.2.2.2.1 rfl rfl (hb hbytes d4) ?_
    exact Steps.refl _)
  have hz : V.slots.size = 0 ↔ n = 0 := by
    rcases hx.2.2.2.2.1 with ⟨-, q, -⟩ | ⟨-, q, -⟩ <;> omega
  by_cases h0 : n = 0
  · have c4 : Steps p.tables e below (s₁.setTop (entryFrame m #[.ref x] 1)) (T2.setTop (mkF m 13 #[.val (.ref x)] [.int 1])) := c3.trans (by
      refine XS.ifNo X2.here hexec rfl (hb hbytes d5) rfl (i0_ne_f (by rw [hz.mpr h0]; rfl)) ?_
      refine iconstV X2.here hexec rfl 1 (hb hbytes d8) (by decide) ?_
      refine XS.goto X2.here hexec rfl (pc0 := 9) rfl (hb hbytes d9) (by decide) rfl ?_
      exact Steps.refl _)
    exact ⟨T2, some (.int 1), _, _, _, X2, rfl, rfl, rfl, (fun h => by cases h), ⟨by rw [if_pos h0], hh2⟩, fun fs hl => c4.trans (X2.ireturnOut hexec hret rfl (Or.inr (Or.inl rfl)) (hb hbytes d13) hl)⟩
  · have c4 : Steps p.tables e below (s₁.setTop (entryFrame m #[.ref x] 1)) (T2.setTop (mkF m 13 #[.val (.ref x)] [.int 0])) := c3.trans (by
      refine XS.ifYes X2.here hexec rfl (pc0 := 5) rfl (hb hbytes d5) rfl (i0_ne_t (nz32 v31 (by omega))) (by decide) rfl ?_
      refine iconstV X2.here hexec rfl 0 (hb hbytes d12) (by decide) ?_
      exact Steps.refl _)
    exact ⟨T2, some (.int 0), _, _, _, X2, rfl, rfl, rfl, (fun h => by cases h), ⟨by rw [if_neg h0], hh2⟩, fun fs hl => c4.trans (X2.ireturnOut hexec hret rfl (Or.inr (Or.inl rfl)) (hb hbytes d13) hl)⟩
theorem pays {l : Launch} {R : Room} {p : Program} {e : Env} {below : List Frame} {s : State} {sargs : Array Value} {len W : Nat} (x t : Addr) (V : Cell) (cd : Int32) (n : Nat) (f : Nat → Int32) (htab : tab.before sargs s = true) (hfr : 1 ≤ R.frames) (hlo : W + 12 ≤ R.locals) :
    Back l R p e below s sargs yN len W (fun A₁ a₁ => A₁.cells + 0 ≤ R.cells ∧ A₁.slots + 0 ≤ R.slots ∧ P x t V cd n f a₁ A₁.U) (fun A₁ _ v₁ B₁ => E n v₁ A₁.U B₁.U ∧ B₁.locs = A₁.locs ++ [] ∧ B₁.cells = A₁.cells + 0 ∧ B₁.slots = A₁.slots + 0) :=
  (law l x t V cd n f).pays htab hfr (by omega)
end Emp
end StrChars
namespace StrChars.Road
open Jvm Sem ClassFile Op Lib Jvm.Stand Jvm.Free Jvm.Free.XT
open Jvm.Lib.Cold (StaticIs)
/-- the words of String.isEmpty() -/
abbrev wordsEmp : List Jvm.Cond := [.code Emp.yN Emp.yB 1 (some .boolean), .initialized ST, .fieldLink ST 9 ST "value" "[B"]
theorem tabEmp_of {a : Array Value} {s : State} (h : ∀ w ∈ wordsEmp, w.before a s = true) : Emp.tab.before a s = true := unparts (wk h (.code Emp.yN Emp.yB 1 (some .boolean))) (wks h (.initialized Emp.yN.cls :: Emp.site))
theorem movedEmp {Z s : State} {a0 args : Array Value} (hZ : Z.Warmed39 s.vm) (hw : ∀ d ∈ wordsEmp, d.before a0 Z = true) : ∀ d ∈ wordsEmp, d.before args s = true := fun d hd => by
  have t : ∀ d ∈ wordsEmp, (d.onTables && d.keepsFace) = true := by decide +kernel
  exact RoadKit.mv hZ (hw d hd) (t d hd)
/-- the road's facts of a String, as the laws ask it -/
theorem txt_of {Z U : State} {a0 : Array Value} {kI : Nat} (wi : (Jvm.Cond.instantiable ST kI).before a0 Z = true) (al : Z.vm.Alike U.vm) {x t : Addr} {kb : ClassId} {cs : List Int32} {cd N2 : Int32} {vs : List Value} (E : RoadKit.Exa Z U.heap x ST) (V : RoadKit.Fld Z U.heap x ST "value" "[B" (.ref t)) (C : RoadKit.Fld Z U.heap x ST "coder" "B" (.int cd)) (K : RoadKit.Arv Z U.heap t kb .byte N2 vs (.int 0)) (hc : CodA cs cd N2 vs) (hb : ∀ c ∈ cs, ¬ c < 0 ∧ ¬ (65535 : Int32) < c) (l2 : cs.length ≤ 4000) :
    ∃ A, Txt x t A cd cs.length (fun j => cs.getD j 0) U := by
  obtain ⟨A, K1, K2, K3, K4, K5, K6⟩ := K
  have hcod := hc.cod (by omega) K3 K5
  obtain ⟨D, fV, fC, hB, F1, F2, g1, g2, -, -⟩ := strObj wi al E V C
  exact ⟨A, ⟨_, hB.2.2.1, D, hB.1, rfl, by cases q : D.vm <;> first | rfl | exact absurd q (hB.2.1.2 _)⟩, Has.of hB F1 g1, Has.of hB F2 g2, ⟨K1.1, State.isArrayOf_alike al K1.2.1, K1.2.2, by rcases hcod with ⟨-, q, -⟩ | ⟨-, q, -⟩ <;> omega⟩, hcod, fun j hj => by
    have e : cs.getD j 0 = cs[j] := by simp [List.getD_eq_getElem?_getD, hj]
    show ¬ cs.getD j 0 < 0 ∧ ¬ 65535 < cs.getD j 0
    rw [e]; exact hb _ (List.getElem_mem _)⟩
/-- **isEmpty() OF SUCH A STRING** -/
theorem empW {p : Program} {l : Launch} {e : Env} {R : Room} {s : State} {args : Array Value} {below : List Frame} {len W : Nat} {Z : State} {a0 : Array Value} {h : Heap} (hZ : Z.Warmed39 s.vm) (hw : ∀ d ∈ wordsEmp, d.before a0 Z = true) {kI : Nat} (wi : (Jvm.Cond.instantiable ST kI).before a0 Z = true)
    {x t : Addr} {kb : ClassId} {cs : List Int32} {cd N2 : Int32} {vs : List Value} (E : RoadKit.Exa Z h x ST) (V : RoadKit.Fld Z h x ST "value" "[B" (.ref t)) (C : RoadKit.Fld Z h x ST "coder" "B" (.int cd)) (K : RoadKit.Arv Z h t kb .byte N2 vs (.int 0)) (hc : CodA cs cd N2 vs) (hb : ∀ c ∈ cs, ¬ c < 0 ∧ ¬ (65535 : Int32) < c) (l2 : cs.length ≤ 4000) (hfr : 1 ≤ R.frames) (hlo : W + 12 ≤ R.locals) :
    Back l R p e below s args (⟨"java/lang/String", "isEmpty", "()Z"⟩ : MethodName) len W (fun P a => a = #[.ref x] ∧ P.U.heap = h ∧ P.cells + 0 ≤ R.cells ∧ P.slots + 0 ≤ R.slots)
      (fun P _ v B => ∃ L, (v = some (.int (if cs.length = 0 then 1 else 0)) ∧ L = [] ∧ B.U.heap = h) ∧ B.locs = P.locs ++ L ∧ B.cells = P.cells + 0 ∧ B.slots = P.slots + 0) := by
  intro m meth c P g ig mk a X hg hsize hdg hW hn hp'
  obtain ⟨rfl, rfl, r1, r2⟩ := hp'
  have al : Z.vm.Alike P.U.vm := hZ.alike.trans X.warmed.alike
  obtain ⟨A, hx⟩ := txt_of wi al E V C K hc hb l2
  obtain ⟨v, B, X', ⟨⟨hv, hh⟩, hl, hk, hs⟩, st⟩ := Emp.pays x t A cd cs.length (fun j => cs.getD j 0) (tabEmp_of (movedEmp hZ hw)) hfr hlo m meth c P g ig mk _ X hg hsize hdg hW hn ⟨r1, r2, rfl, hx⟩
  exact ⟨v, B, X', ⟨[], ⟨hv, rfl, hh⟩, hl, hk, hs⟩, st⟩
end StrChars.Road
namespace StrChars.Road
open Jvm Sem ClassFile Op Lib Jvm.Stand Jvm.Free Jvm.Free.XT
open Jvm.Lib.Cold (StaticIs)
/-- what backV says of its String, as the contracts of this text ask it: cs's low bytes, coder 0 -/
theorem codOf {cs : List Int32} {n : Nat} (hn : cs.length = n) (hb : ∀ c ∈ cs, ¬ 255 < c) : CodA cs 0 (Int32.ofNat n) ((cs.map lo8).map Value.int) := Or.inl ⟨rfl, by rw [hn], by simp [List.map_map, Function.comp_def], hb⟩
end StrChars.Road
end Jvm.Pilot.@@N@@
namespace Jvm.Pilot.@@N@@
open Jvm Jvm.ClassFile Sem Op Lib Jvm.Free Jvm.Stand Jvm.LawKit Jvm.RoadKit Bundle Jvm.Pilot.@@N@@.Jvm.D
theorem own_nb {v : Int32} (h : v = 0 ∨ v = 1) : narrow .boolean (.int v) = .int v := by rcases h with rfl | rfl <;> rfl
theorem own_i2c {x : Int32} (h0 : ¬ x < 0) (h1 : ¬ 65535 < x) : x.toUInt32.toUInt16.toUInt32.toInt32 = x := by
  have e0 : (0 : Int32).toInt = 0 := rfl
  have e1 : (65535 : Int32).toInt = 65535 := rfl
  rw [Int32.lt_iff_toInt_lt, e0] at h0
  rw [Int32.lt_iff_toInt_lt, e1] at h1
  apply Int32.toBitVec_inj.mp
  apply BitVec.eq_of_toNat_eq
  have e : x.toUInt32.toUInt16.toUInt32.toInt32.toBitVec.toNat = x.toUInt32.toUInt16.toUInt32.toNat := rfl
  rw [e, UInt16.toNat_toUInt32, UInt32.toNat_toUInt16]
  show x.toBitVec.toNat % 2 ^ 16 = _
  have q : x.toInt = x.toBitVec.toInt := rfl
  rw [q, BitVec.toInt_eq_toNat_cond] at h0 h1
  have := x.toBitVec.isLt
  split at h0 <;> omega
theorem own_and255 (x : Int32) : ¬ (x &&& 255) < 0 ∧ ¬ 255 < (x &&& 255) := by
  have h : (x &&& 255).toBitVec.toNat < 256 := by
    simp only [Int32.toBitVec_and, BitVec.toNat_and]
    exact Nat.lt_succ_of_le Nat.and_le_right
  have e0 : (0 : Int32).toInt = 0 := rfl
  have e1 : (255 : Int32).toInt = 255 := rfl
  rw [Int32.lt_iff_toInt_lt, Int32.lt_iff_toInt_lt, e0, e1]
  have q : (x &&& 255).toInt = (x &&& 255).toBitVec.toInt := rfl
  rw [q, BitVec.toInt_eq_toNat_cond]
  split <;> omega
/-- a char below 256 -/
def C8 (x : Int32) : Prop := ¬ x < 0 ∧ ¬ (255 : Int32) < x
theorem own_up1 {x : Int32} (h : C8 x) : ¬ x < 0 ∧ ¬ (65535 : Int32) < x := ⟨h.1, fun q => h.2 (by rw [Int32.lt_iff_toInt_lt] at q ⊢; have e1 : (65535 : Int32).toInt = 65535 := rfl; have e2 : (255 : Int32).toInt = 255 := rfl; omega)⟩
theorem own_nar {x : Int32} (h : C8 x) : nar .char x = x := own_i2c (own_up1 h).1 (own_up1 h).2
theorem own_c8m (x : Int32) : C8 ((x &&& 255).toUInt32.toUInt16.toUInt32.toInt32) := by rw [i2c_mask]; exact own_and255 x
theorem own_c8n {x : Int32} (h : C8 x) : C8 (nar .char x) := by rw [own_nar h]; exact h
theorem own_nc {v : Int32} (h : ¬ v < 0 ∧ ¬ 65535 < v) : narrow .char (.int v) = .int v := by
  show Value.int (v.toUInt32.toUInt16.toUInt32.toInt32) = .int v
  rw [own_i2c h.1 h.2]
theorem own_nref {t : FieldType} {w : Value} (h : w.isRef = true) : narrow t w = w := by rcases ref_cases h with rfl | ⟨a, rfl⟩ <;> cases t <;> rfl
theorem own_al0 {P : Int32 → Prop} : ∀ c ∈ ([] : List Int32), P c := fun _ h => nomatch h
theorem own_alS {P : Int32 → Prop} {a : Int32} {L : List Int32} (h : P a) (r : ∀ c ∈ L, P c) : ∀ c ∈ a :: L, P c := List.forall_mem_cons.mpr ⟨h, r⟩
theorem own_up (cs : List Int32) (h : ∀ c ∈ cs, ¬ c < 0 ∧ ¬ (255 : Int32) < c) : ∀ c ∈ cs, ¬ c < 0 ∧ ¬ (65535 : Int32) < c := fun c hc => own_up1 (h c hc)
/-- a flag r says P -/
abbrev TF (r : Int32) (P : Prop) : Prop := (r = 1 ∧ P) ∨ (r = 0 ∧ ¬ P)
theorem own_y {r : Int32} {P : Prop} (h : TF r P) (q : ¬ r = 0) : P := h.elim (fun z => z.2) (fun z => absurd z.1 q)
theorem own_n {r : Int32} {P : Prop} (h : TF r P) (q : r = 0) : ¬ P := h.elim (fun z => absurd (z.1.symm.trans q) (by decide)) (fun z => z.2)
theorem own_b {r : Int32} {P : Prop} (h : TF r P) : r = 0 ∨ r = 1 := h.elim (fun z => Or.inr z.1) (fun z => Or.inl z.1)
theorem own_is1 {r : Int32} {P : Prop} (h : TF r P) (q : P) : r = 1 := h.elim (fun z => z.1) (fun z => absurd q z.2)
theorem own_is0 {r : Int32} {P : Prop} (h : TF r P) (q : ¬ P) : r = 0 := h.elim (fun z => absurd z.2 q) (fun z => z.1)
theorem own_ofN {a : Nat} (h : a < 2147483648) : (Int32.ofNat a).toInt = a := Int32.toInt_ofNat_small h
theorem own_ofN_lt {a b : Nat} (ha : a < 2147483648) (hb : b < 2147483648) : Int32.ofNat a < Int32.ofNat b ↔ a < b := by
  rw [Int32.lt_iff_toInt_lt, own_ofN ha, own_ofN hb]; omega
theorem own_ofN_inj {a b : Nat} (ha : a < 2147483648) (hb : b < 2147483648) : Int32.ofNat a = Int32.ofNat b ↔ a = b := by
  rw [← Int32.toInt_inj, own_ofN ha, own_ofN hb]; omega
theorem own_mask31 (x : Int32) : ∃ a : Nat, a < 2147483648 ∧ x &&& 2147483647 = Int32.ofNat a := by
  have h : (x &&& 2147483647).toBitVec.toNat < 2147483648 := by
    simp only [Int32.toBitVec_and, BitVec.toNat_and]
    exact Nat.lt_succ_of_le Nat.and_le_right
  refine ⟨_, h, ?_⟩
  apply Int32.toBitVec_inj.mp
  show _ = BitVec.ofNat 32 _
  rw [BitVec.ofNat_toNat]; simp
theorem own_rem31 (x : Int32) {m : Nat} (h0 : 0 < m) (h1 : m < 2147483648) : ∃ a : Nat, a < m ∧ (x &&& 2147483647) % Int32.ofNat m = Int32.ofNat a := by
  obtain ⟨a, ha, e⟩ := own_mask31 x
  refine ⟨a % m, Nat.mod_lt _ h0, ?_⟩
  rw [e]
  apply Int32.toInt_inj.mp
  have q : a % m ≤ a := Nat.mod_le _ _
  rw [Int32.toInt_mod, own_ofN ha, own_ofN h1, own_ofN (by omega)]
  exact (Int.ofNat_tmod a m).symm
theorem own_b8 (x : Int32) : (x.toInt8.toInt32).toInt8.toInt32 = x.toInt8.toInt32 := by simp
/-- a Latin-1 String x of the chars cs, its bytes at t -/
def OStr (Z : State) (h : Heap) (x t : Addr) (kb : ClassId) (cs : List Int32) : Prop :=
  Exa Z h x "java/lang/String" ∧ Fld Z h x "java/lang/String" "value" "[B" (.ref t) ∧ Fld Z h x "java/lang/String" "coder" "B" (.int 0) ∧ Arv Z h t kb .byte (Int32.ofNat cs.length) ((cs.map (fun c => c.toInt8.toInt32)).map Value.int) (.int 0) ∧ (∀ c ∈ cs, ¬ c < 0 ∧ ¬ (255 : Int32) < c) ∧ cs.length ≤ 4000
theorem OStr.cod {Z : State} {h : Heap} {x t : Addr} {kb : ClassId} {cs : List Int32} (S : OStr Z h x t kb cs) : StrChars.Road.CodA cs 0 (Int32.ofNat cs.length) ((cs.map (fun c => c.toInt8.toInt32)).map Value.int) := StrChars.Road.codOf rfl (fun c hc => (S.2.2.2.2.1 c hc).2)
theorem own_tfv {v : Option Value} {P : Prop} (h : (v = some (.int 1) ∧ P) ∨ (v = some (.int 0) ∧ ¬ P)) : ∃ r : Int32, v = some (.int r) ∧ TF r P := h.elim (fun z => ⟨1, z.1, Or.inl ⟨rfl, z.2⟩⟩) (fun z => ⟨0, z.1, Or.inr ⟨rfl, z.2⟩⟩)
theorem own_tfeq {r v : Int32} {P : Prop} (h1 : TF r P) (h2 : TF v P) : r = v := h1.elim (fun z => z.1.trans (own_is1 h2 z.2).symm) (fun z => z.1.trans (own_is0 h2 z.2).symm)
theorem own_tfiff {r : Int32} {P Q : Prop} (h : TF r P) (i : P ↔ Q) : TF r Q := h.imp (fun z => ⟨z.1, i.mp z.2⟩) (fun z => ⟨z.1, fun q => z.2 (i.mpr q)⟩)
theorem own_ushr (x : Int32) {k : Nat} (hk : 0 < k ∧ k < 32) : ∃ a : Nat, a < 2147483648 ∧ (x.toUInt32 >>> (Int32.ofNat k &&& 31).toUInt32).toInt32 = Int32.ofNat a := by
  obtain ⟨h0, h1⟩ := hk
  refine ⟨x.toUInt32.toNat >>> k, ?_, ?_⟩
  · have := x.toUInt32.toNat_lt
    rw [Nat.shiftRight_eq_div_pow]
    have : 2 ^ 1 ≤ 2 ^ k := Nat.pow_le_pow_right (by decide) h0
    apply Nat.div_lt_of_lt_mul
    omega
  · have e : (Int32.ofNat k &&& 31).toUInt32 = UInt32.ofNat k := by
      have : k < 32 := h1
      have q : ∀ j : Fin 32, (Int32.ofNat j.val &&& 31).toUInt32 = UInt32.ofNat j.val := by decide
      exact q ⟨k, h1⟩
    rw [e]
    apply Int32.toBitVec_inj.mp
    apply BitVec.eq_of_toNat_eq
    show (x.toUInt32 >>> UInt32.ofNat k).toNat = (BitVec.ofNat 32 _).toNat
    rw [UInt32.toNat_shiftRight, BitVec.toNat_ofNat]
    have hlt : x.toUInt32.toNat >>> k < 2 ^ 32 := Nat.lt_of_le_of_lt (Nat.shiftRight_le _ _) x.toUInt32.toNat_lt
    rw [Nat.mod_eq_of_lt hlt]
    congr 1
    simp
    omega
theorem own_tfe {v : Option Value} {n : Nat} (h : v = some (.int (if n = 0 then 1 else 0))) : ∃ r : Int32, v = some (.int r) ∧ TF r (n = 0) := by
  by_cases q : n = 0
  · exact ⟨1, by rw [h, if_pos q], Or.inl ⟨rfl, q⟩⟩
  · exact ⟨0, by rw [h, if_neg q], Or.inr ⟨rfl, q⟩⟩
theorem own_m4 (x : Int32) : x &&& 3 = 0 ∨ x &&& 3 = 1 ∨ x &&& 3 = 2 ∨ x &&& 3 = 3 := by
  have h : (x &&& 3).toBitVec.toNat < 4 := by
    simp only [Int32.toBitVec_and, BitVec.toNat_and]
    exact Nat.lt_succ_of_le Nat.and_le_right
  have e : ∀ k : Nat, (x &&& 3).toBitVec.toNat = k → x &&& 3 = Int32.ofNat k := fun k hk => by
    apply Int32.toBitVec_inj.mp
    show _ = BitVec.ofNat 32 _
    rw [← hk, BitVec.ofNat_toNat]; simp
  have q : (x &&& 3).toBitVec.toNat = 0 ∨ (x &&& 3).toBitVec.toNat = 1 ∨ (x &&& 3).toBitVec.toNat = 2 ∨ (x &&& 3).toBitVec.toNat = 3 := by omega
  rcases q with q | q | q | q
  · exact Or.inl (e 0 q)
  · exact Or.inr (Or.inl (e 1 q))
  · exact Or.inr (Or.inr (Or.inl (e 2 q)))
  · exact Or.inr (Or.inr (Or.inr (e 3 q)))
theorem own_m3 (x : Int32) : (x &&& 3) % 3 = 0 ∨ (x &&& 3) % 3 = 1 ∨ (x &&& 3) % 3 = 2 := by
  rcases own_m4 x with q | q | q | q <;> rw [q] <;> decide
theorem own_idx {a m : Nat} (h : a < m) (hm : m < 2147483648) : ¬ Int32.ofNat a < 0 ∧ Int32.ofNat a < Int32.ofNat m := by
  have e0 : (0 : Int32).toInt = 0 := rfl
  rw [Int32.lt_iff_toInt_lt, Int32.lt_iff_toInt_lt, e0, own_ofN (by omega), own_ofN hm]; omega
theorem own_in_words : ∀ d ∈ StrChars.Road.words, d ∈ tables_1 := by decide +kernel
theorem own_in_wordsEmp : ∀ d ∈ StrChars.Road.wordsEmp, d ∈ tables_1 := by decide +kernel
abbrev EL : List (String × Nat) := [("java/lang/String", 7)]
theorem own_since (s : State) : s.Since s.vm 0 := (State.WarmedH.refl s).since 0
theorem own_safe {Z : State} {vm : Vm} {h : Heap} {x : Addr} (hal : Z.vm.Alike vm) (E : Exa Z h x "java/lang/String") (F : Fld Z h x "java/lang/String" "value" "[B" .null) : Safe Z EL vm h x := fun B => by
  obtain ⟨cl1, k, e1, e2, -⟩ := E
  obtain ⟨cl2, cf, k2, i, f, f1, f2, -, -, -, -, f7⟩ := F
  cases e1.symm.trans f1
  obtain ⟨p, -, u, a, -, q, -, G, rfl | rfl⟩ := B
  · cases (show h[q.sa]? = some q.sC from G.ha).symm.trans e1
    obtain ⟨cS, ⟨⟨-, -, -, ⟨cv, kv, iv, s4, -⟩, -, -, -, s8, -⟩, -⟩, -⟩ := G
    obtain ⟨k3, z⟩ := ff_back (U := Wst Z vm h) hal s4
    cases f2.symm.trans z
    cases f7.symm.trans s8
  · cases (show h[q.sd]? = some q.SA from G.hd).symm.trans e1
    obtain ⟨cS, -, -, g, -⟩ := G
    have g' : vm.findClass "[B" = some q.SA.cls := g
    rw [hal.findClass] at g'
    obtain ⟨k1, q1, q2⟩ := Vm.findClass_spec g'
    obtain ⟨k3, q3, q4⟩ := Vm.findClass_spec e2
    cases q1.symm.trans q3
    exact absurd (q2.symm.trans q4) (by decide)
theorem own_EW {Z : State} {a0 : Array Value} (hw : ∀ d ∈ tables_1, d.before a0 Z = true) : EW Z a0 EL := (EW.cons (hw _ (List.mem_of_getElem? (i := 52) rfl)) (by decide) EW.nil)
theorem own_strw {Z : State} {a0 : Array Value} (hw : ∀ d ∈ tables_1, d.before a0 Z = true) : ∀ a ∈ Bundle.stringAtoms, a.before a0 Z = true := fun d hd => hw d ((by decide +kernel : ∀ d ∈ Bundle.stringAtoms, d ∈ tables_1) d hd)
theorem own_CH {s : State} {args : Array Value} {tb : Tables} {e : Env} (hw : ∀ d ∈ tables_1, d.before args s = true) (hc : call_1_1 tb e args s) (h2 : (Jvm.Cond.not (Jvm.Cond.eq (Jvm.Term.static "java/lang/String" "COMPACT_STRINGS" "Z") (Jvm.Term.int (0 : Int32)))).before args s = true) : CHv s EL s.vm s.heap := CHv.start (a0 := args) (own_EW hw) hc h2 (hw _ (List.mem_of_getElem? (i := 27) rfl)) (hw _ (List.mem_of_getElem? (i := 9) rfl))
theorem own_fld {s : State} {args : Array Value} {t : Term} {x : Addr} {C n d : String} {k : Int32} (ev : t.eval args s none [] s = some (.ref x)) (h : (Cond.eq (.field t C n d) (.int k)).value args s none s [] = some true) : Fld s s.heap x C n d (.int k) := by
  apply Fld.start
  have e2 := fld_at (C := C) (n := n) (dd := d) ev
  cases q : s.fieldOf? x C n d with
  | none => rw [q] at e2; simp only [Cond.value, e2] at h; cases h
  | some v =>
    rw [q] at e2
    simp only [Cond.value, e2, Term.int_eval] at h
    cases v <;> simp at h
    rw [h]
def QE (Z : State) (x : Addr) (h0 : Heap) (n0 : Nat) (v : Option Value) (h : Heap) (L : List Loc) : Prop := ∃ (t : Addr) (kb : ClassId), v = none ∧ Fr n0 L ∧ Keep h0 h [x] ∧ OStr Z h x t kb []

theorem d_jdk_42_method_149_code_0 : decode jdk_42_method_149_code 0 = .ok (.aload_n 0, 1) := by decide +kernel
theorem d_jdk_42_method_149_code_1 : decode jdk_42_method_149_code 1 = .ok (.invokespecial 1, 3) := by decide +kernel
theorem d_jdk_42_method_149_code_4 : decode jdk_42_method_149_code 4 = .ok (.iload_n 3, 1) := by decide +kernel
theorem d_jdk_42_method_149_code_5 : decode jdk_42_method_149_code 5 = .ok (.ifCond .ne 22, 3) := by decide +kernel
theorem d_jdk_42_method_149_code_8 : decode jdk_42_method_149_code 8 = .ok (.aload_n 0, 1) := by decide +kernel
theorem d_jdk_42_method_149_code_9 : decode jdk_42_method_149_code 9 = .ok (.ldc 7, 2) := by decide +kernel
theorem d_jdk_42_method_149_code_11 : decode jdk_42_method_149_code 11 = .ok (.getfield 9, 3) := by decide +kernel
theorem d_jdk_42_method_149_code_14 : decode jdk_42_method_149_code 14 = .ok (.putfield 9, 3) := by decide +kernel
theorem d_jdk_42_method_149_code_17 : decode jdk_42_method_149_code 17 = .ok (.aload_n 0, 1) := by decide +kernel
theorem d_jdk_42_method_149_code_18 : decode jdk_42_method_149_code 18 = .ok (.ldc 7, 2) := by decide +kernel
theorem d_jdk_42_method_149_code_20 : decode jdk_42_method_149_code 20 = .ok (.getfield 15, 3) := by decide +kernel
theorem d_jdk_42_method_149_code_23 : decode jdk_42_method_149_code 23 = .ok (.putfield 15, 3) := by decide +kernel
theorem d_jdk_42_method_149_code_26 : decode jdk_42_method_149_code 26 = .ok (.return_, 1) := by decide +kernel
theorem pn_java_lang_String : plainName "java/lang/String" = true := by first | (simp [plainName, overriddenIn]; done) | decide +kernel
theorem ef_rmE4 (m : MethodId) (x0 : Addr) (x1 : Addr) (x2 : Int32) (x3 : Int32) : entryFrame m #[(.ref x0), (.ref x1), (.int x2), (.int x3), .null] 6 = mkF m 0 #[.val (.ref x0), .val (.ref x1), .val (.int x2), .val (.int x3), .val .null, .unset] [] := by first | (simp [entryFrame, mkF, argsToLocals, Value.category]; done) | rfl
set_option maxRecDepth 65536 in
set_option maxHeartbeats 40000000 in
theorem rmE4 (l : Launch) (Z : State) (a0 : Array Value) (hw : ∀ d ∈ tables_1, d.before a0 Z = true) (ws : List Jvm.Cond) (x b : Addr) (h0 : Heap) (n0 : Nat) (Z0 : n0 ≤ h0.size) (g_x : n0 ≤ x) (Ex : Exa Z h0 x "java/lang/String") (Fv : Fld Z h0 x "java/lang/String" "value" "[B" .null) (Fc : Fld Z h0 x "java/lang/String" "coder" "B" (.int (0 : Int32))) :
    MetFree l (⟨"java/lang/String", "<init>", "([CIILjava/lang/Void;)V"⟩ : MethodName) (head1 (Jvm.Cond.code (⟨"java/lang/String", "<init>", "([CIILjava/lang/Void;)V"⟩ : MethodName) jdk_42_method_149_code 6 (none) :: ws) ({ frames := 1, cells := 4, slots := 8, locals := 12 } : Room)) (fun aa U => aa = #[(.ref x), (.ref b), (.int (0 : Int32)), (.int (0 : Int32)), .null] ∧ Z.Warmed39 U.vm ∧ U.heap = h0 ∧ CHv Z EL U.vm h0) (fun _ _ _ _ _ => True) (fun _ U o U' => ∃ v L, o = .returned v ∧ QE Z x h0 n0 v U'.heap L ∧ CHr Z EL U.vm U.heap U'.vm U'.heap ∧ ReturnedEndW U o U' L ({ frames := 1, cells := 4, slots := 8, locals := 12 } : Room).cells ({ frames := 1, cells := 4, slots := 8, locals := 12 } : Room).slots) := by
  refine MetFree.of_bodySF (plainFor_of_name pn_java_lang_String) hisR ?_
  intro p e s m args below meth c s₁ Bd hml0 hP hK
  obtain ⟨rfl, hZ, hh, hCH⟩ := hP
  have hx := Bd.exec
  have hby := Bd.bytes
  have hml : c.maxLocals = 6 := hml0
  have hown : s.vm.findClass "java/lang/String" = some m.cls := findClass_of_methodNamed Bd.named
  have hnm := (name_of_methodNamed Bd.named Bd.method).1
  have X0 : Stand p l e ({ frames := 1, cells := 4, slots := 8, locals := 12 } : Room) s m #[(.ref x), (.ref b), (.int (0 : Int32)), (.int (0 : Int32)), .null] below meth c s₁ [] 0 0 := Stand.of_body Bd
  have e0 : s₁.heap = h0 := by rw [← hh, Bd.state]; rfl
  have N0 := Fr.nil n0
  have K0 := Keep.refl h0 [x]
  obtain ⟨S0, hS0⟩ : ∃ z, z = s₁.setTop (entryFrame m #[(.ref x), (.ref b), (.int (0 : Int32)), (.int (0 : Int32)), .null] 6) := ⟨_, rfl⟩
  rw [← hS0]
  have c0 : Steps p.tables e below S0 (s₁.setTop (mkF m 0 #[.val (.ref x), .val (.ref b), .val (.int (0 : Int32)), .val (.int (0 : Int32)), .val .null, .unset] [])) := by
    rw [hS0]; exact castTop (ef_rmE4 m x b (0 : Int32) (0 : Int32)) (Steps.refl _)
  have X0 : Stand p l e ({ frames := 1, cells := 4, slots := 8, locals := 12 } : Room) (s.setVm s.vm) m #[(.ref x), (.ref b), (.int (0 : Int32)), (.int (0 : Int32)), .null] below meth c s₁ [] 0 0 := X0
  have hS0 : s.Since s.vm 0 := own_since s
  have R0 : CHr Z EL s.vm h0 s.vm h0 := CHr.refl hCH
  have hEL := own_EW hw
  have hwS := own_strw hw
  have c1 : Steps p.tables e below S0 (s₁.setTop (mkF m 1 #[.val (.ref x), .val (.ref b), .val (.int (0 : Int32)), .val (.int (0 : Int32)), .val .null, .unset] [(.ref x)])) := c0.trans (by
    show Steps p.tables e below (s₁.setTop (mkF m 0 #[.val (.ref x), .val (.ref b), .val (.int (0 : Int32)), .val (.int (0 : Int32)), .val .null, .unset] [])) _
    refine XS.aloadN X0.here hx rfl (hb hby d_jdk_42_method_149_code_0) rfl rfl ?_
    exact Steps.refl _)
  obtain ⟨T2, X2, e2, st2⟩ := initO X0 hx hZ hown (hw _ (List.mem_of_getElem? (i := 19) rfl)) (hw _ (List.mem_of_getElem? (i := 20) rfl)) (hw _ (List.mem_of_getElem? (i := 21) rfl)) e0 (g := (mkF m 1 #[.val (.ref x), .val (.ref b), .val (.int (0 : Int32)), .val (.int (0 : Int32)), .val .null, .unset] [(.ref x)])) rfl (by rw [hml]; rfl) rfl (hb hby d_jdk_42_method_149_code_1) (by decide) (W := 0) (by show 2 * 0 + _ ≤ _; exact Nat.le_of_eq rfl) (by decide)
  have c3 : Steps p.tables e below S0 (T2.setTop (mkF m 4 #[.val (.ref x), .val (.ref b), .val (.int (0 : Int32)), .val (.int (0 : Int32)), .val .null, .unset] [])) := c1.trans (st2 _ (Steps.refl _))
  have c4 : Steps p.tables e below S0 (T2.setTop (mkF m 9 #[.val (.ref x), .val (.ref b), .val (.int (0 : Int32)), .val (.int (0 : Int32)), .val .null, .unset] [(.ref x)])) := c3.trans (by
    show Steps p.tables e below (T2.setTop (mkF m 4 #[.val (.ref x), .val (.ref b), .val (.int (0 : Int32)), .val (.int (0 : Int32)), .val .null, .unset] [])) _
    refine XS.iloadN X2.here hx rfl (hb hby d_jdk_42_method_149_code_4) rfl ?_
    refine XS.ifNo X2.here hx rfl (hb hby d_jdk_42_method_149_code_5) rfl ((if0 _ _).trans (teq (by decide : ((0 : Int32) = (0 : Int32)))).2) ?_
    refine XS.aloadN X2.here hx rfl (hb hby d_jdk_42_method_149_code_8) rfl rfl ?_
    exact Steps.refl _)
  obtain ⟨a5, T5, h5, k5, t5, kb5, X5, e5, E5, hS5, hk5, hZ5, hown5, Ex5, Fc5, Fv5, Va5, la5, lb5, r5, -, -, st5⟩ := ldcCH X2 hx hZ hown (hw _ (List.mem_of_getElem? (i := 52) rfl)) hwS e2 hS0 (Nat.zero_le _) hEL (List.mem_of_getElem? (i := 0) rfl) R0.1 (vs := []) (z := 0) ⟨by simp, rfl⟩ (by decide) rfl (g := (mkF m 9 #[.val (.ref x), .val (.ref b), .val (.int (0 : Int32)), .val (.int (0 : Int32)), .val .null, .unset] [(.ref x)])) rfl (hb hby d_jdk_42_method_149_code_9) (n := 0) (by decide) (by decide) (by decide) (by decide)
  have c6 : Steps p.tables e below S0 (T5.setTop (mkF m 11 #[.val (.ref x), .val (.ref b), .val (.int (0 : Int32)), .val (.int (0 : Int32)), .val .null, .unset] [(.ref a5), (.ref x)])) := c4.trans (st5 _ (Steps.refl _))
  have z5 : n0 ≤ h5.size := Nat.le_trans Z0 E5.1
  have K5 := K0.ext E5
  have R5 := R0.trans r5
  obtain ⟨T7, X7, e7, st7⟩ := getF X5 hx hZ5 hown5 (host := "") (Or.inl (hw _ (List.mem_of_getElem? (i := 36) rfl))) Via.refl e5 Fv5 (g := (mkF m 11 #[.val (.ref x), .val (.ref b), .val (.int (0 : Int32)), .val (.int (0 : Int32)), .val .null, .unset] [(.ref a5), (.ref x)])) rfl rfl (hb hby d_jdk_42_method_149_code_11)
  have c8 : Steps p.tables e below S0 (T7.setTop (mkF m 14 #[.val (.ref x), .val (.ref b), .val (.int (0 : Int32)), .val (.int (0 : Int32)), .val .null, .unset] [(.ref t5), (.ref x)])) := c6.trans (st7 _ (Steps.refl _))
  obtain ⟨T9, h9, X9, e9, W9, st9⟩ := putF X7 hx hZ5 hown5 (host := "") (Or.inl (hw _ (List.mem_of_getElem? (i := 36) rfl))) Via.refl e7 (Fv.ext E5) (Ex.ext E5) (Or.inr ⟨(hw _ (List.mem_of_getElem? (i := 37) rfl)), rfl, hnm⟩) (hw _ (List.mem_of_getElem? (i := 9) rfl)) (ty := (.array .byte)) (by decide) rfl rfl (g := (mkF m 14 #[.val (.ref x), .val (.ref b), .val (.int (0 : Int32)), .val (.int (0 : Int32)), .val .null, .unset] [(.ref t5), (.ref x)])) rfl rfl (hb hby d_jdk_42_method_149_code_14)
  have c10 : Steps p.tables e below S0 (T9.setTop (mkF m 17 #[.val (.ref x), .val (.ref b), .val (.int (0 : Int32)), .val (.int (0 : Int32)), .val .null, .unset] [])) := c8.trans (st9 _ (Steps.refl _))
  have N9 := Fr.snoc X9 N0 g_x
  have Fw9 := (Fv.ext E5).same W9
  have z9 : n0 ≤ h9.size := Nat.le_trans z5 (Keep.of_wr W9).1
  have K9 := K5.wr W9 (Or.inl (by simp))
  have r9 : CHr Z EL T5.vm h5 T5.vm h9 := CHr.wr W9 (r5.safe Ex.lt (own_safe hZ.alike Ex Fv)) R5.1
  have R9 := R5.trans r9
  have c11 : Steps p.tables e below S0 (T9.setTop (mkF m 18 #[.val (.ref x), .val (.ref b), .val (.int (0 : Int32)), .val (.int (0 : Int32)), .val .null, .unset] [(.ref x)])) := c10.trans (by
    show Steps p.tables e below (T9.setTop (mkF m 17 #[.val (.ref x), .val (.ref b), .val (.int (0 : Int32)), .val (.int (0 : Int32)), .val .null, .unset] [])) _
    refine XS.aloadN X9.here hx rfl (hb hby d_jdk_42_method_149_code_17) rfl rfl ?_
    exact Steps.refl _)
  obtain ⟨a12, T12, h12, k12, t12, kb12, X12, e12, E12, hS12, hk12, hZ12, hown12, Ex12, Fc12, Fv12, Va12, la12, lb12, r12, -, -, st12⟩ := ldcCH X9 hx hZ5 hown5 (hw _ (List.mem_of_getElem? (i := 52) rfl)) hwS e9 hS5 (Nat.le_trans hk5 (Keep.of_wr W9).1) hEL (List.mem_of_getElem? (i := 0) rfl) R9.1 (vs := []) (z := 0) ⟨by simp, rfl⟩ (by decide) rfl (g := (mkF m 18 #[.val (.ref x), .val (.ref b), .val (.int (0 : Int32)), .val (.int (0 : Int32)), .val .null, .unset] [(.ref x)])) rfl (hb hby d_jdk_42_method_149_code_18) (n := 0) (by decide) (by decide) (by decide) (by decide)
  have c13 : Steps p.tables e below S0 (T12.setTop (mkF m 20 #[.val (.ref x), .val (.ref b), .val (.int (0 : Int32)), .val (.int (0 : Int32)), .val .null, .unset] [(.ref a12), (.ref x)])) := c11.trans (st12 _ (Steps.refl _))
  have z12 : n0 ≤ h12.size := Nat.le_trans z9 E12.1
  have K12 := K9.ext E12
  have R12 := R9.trans r12
  obtain ⟨T14, X14, e14, st14⟩ := getF X12 hx hZ12 hown12 (host := "") (Or.inl (hw _ (List.mem_of_getElem? (i := 34) rfl))) Via.refl e12 Fc12 (g := (mkF m 20 #[.val (.ref x), .val (.ref b), .val (.int (0 : Int32)), .val (.int (0 : Int32)), .val .null, .unset] [(.ref a12), (.ref x)])) rfl rfl (hb hby d_jdk_42_method_149_code_20)
  have c15 : Steps p.tables e below S0 (T14.setTop (mkF m 23 #[.val (.ref x), .val (.ref b), .val (.int (0 : Int32)), .val (.int (0 : Int32)), .val .null, .unset] [(.int (0 : Int32)), (.ref x)])) := c13.trans (st14 _ (Steps.refl _))
  obtain ⟨T16, h16, X16, e16, W16, st16⟩ := putFN X14 hx hZ12 hown12 (hw _ (List.mem_of_getElem? (i := 34) rfl)) Via.refl e14 (((Fc.ext E5).other W9 (Or.inr (slot_ne (Or.inr (hw _ (List.mem_of_getElem? (i := 35) rfl))) (Or.inr (hw _ (List.mem_of_getElem? (i := 37) rfl))) (by decide) (t := .byte) (t' := (.array .byte)) (by decide) (by decide)))).ext E12) (((Ex.ext E5).wr W9).ext E12) (Or.inr ⟨(hw _ (List.mem_of_getElem? (i := 35) rfl)), rfl, hnm⟩) (hw _ (List.mem_of_getElem? (i := 9) rfl)) (ty := .byte) (v' := (.int (0 : Int32))) (by decide) rfl rfl (g := (mkF m 23 #[.val (.ref x), .val (.ref b), .val (.int (0 : Int32)), .val (.int (0 : Int32)), .val .null, .unset] [(.int (0 : Int32)), (.ref x)])) rfl rfl (hb hby d_jdk_42_method_149_code_23)
  have c17 : Steps p.tables e below S0 (T16.setTop (mkF m 26 #[.val (.ref x), .val (.ref b), .val (.int (0 : Int32)), .val (.int (0 : Int32)), .val .null, .unset] [])) := c15.trans (st16 _ (Steps.refl _))
  have N16 := Fr.snoc X16 N9 g_x
  have Fw16 := (((Fc.ext E5).other W9 (Or.inr (slot_ne (Or.inr (hw _ (List.mem_of_getElem? (i := 35) rfl))) (Or.inr (hw _ (List.mem_of_getElem? (i := 37) rfl))) (by decide) (t := .byte) (t' := (.array .byte)) (by decide) (by decide)))).ext E12).same W16
  have z16 : n0 ≤ h16.size := Nat.le_trans z12 (Keep.of_wr W16).1
  have K16 := K12.wr W16 (Or.inl (by simp))
  have r16 : CHr Z EL T12.vm h12 T12.vm h16 := CHr.wr W16 (r12.safe (Nat.lt_of_lt_of_le Ex.lt (Nat.le_trans E5.1 (Keep.of_wr W9).1)) (r9.safe (Nat.lt_of_lt_of_le Ex.lt E5.1) (r5.safe Ex.lt (own_safe hZ.alike Ex Fv)))) R12.1
  have R16 := R12.trans r16
  obtain ⟨fs, hr, hrun, hended, hW⟩ := X16.leaveW hS12 (by rw [e16]; exact (Nat.le_trans hk12 (Keep.of_wr W16).1)) (v := none) (fun h => rfl)
  refine ⟨_, _, c17.trans (X16.returnOut hx Bd.returns (hb hby d_jdk_42_method_149_code_26) hr), hrun, hended, _, _, rfl, ?_, ?_, hW.1, hW.2.1, hW.2.2.1, hW.2.2.2.mono (by decide) (by decide)⟩
  · show QE Z x h0 n0 _ T16.heap _
    rw [e16]
    exact ⟨_, _, rfl, N16, K16, ((((Ex.ext E5).wr W9).ext E12).wr W16), ((Fw9.ext E12).other W16 (Or.inr (slot_ne (Or.inr (hw _ (List.mem_of_getElem? (i := 37) rfl))) (Or.inr (hw _ (List.mem_of_getElem? (i := 35) rfl))) (by decide) (t := (.array .byte)) (t' := .byte) (by decide) (by decide)))), Fw16, (((Va5.other W9 (Ne.symm (Exa.neArv (Ex.ext E5) Va5 (hw _ (List.mem_of_getElem? (i := 9) rfl))))).ext E12).other W16 (Ne.symm (Exa.neArv (Ex.ext E5) Va5 (hw _ (List.mem_of_getElem? (i := 9) rfl))))), own_al0, Nat.zero_le _⟩
  · show CHr Z EL s.vm s.heap T16.vm T16.heap
    rw [hh, e16]; exact R16.trans (CHv.at X16 hZ12 hEL R16.1)

theorem d_jdk_42_method_3_code_0 : decode jdk_42_method_3_code 0 = .ok (.aload_n 0, 1) := by decide +kernel
theorem d_jdk_42_method_3_code_1 : decode jdk_42_method_3_code 1 = .ok (.aload_n 1, 1) := by decide +kernel
theorem d_jdk_42_method_3_code_2 : decode jdk_42_method_3_code 2 = .ok (.iconst 0, 1) := by decide +kernel
theorem d_jdk_42_method_3_code_3 : decode jdk_42_method_3_code 3 = .ok (.aload_n 1, 1) := by decide +kernel
theorem d_jdk_42_method_3_code_4 : decode jdk_42_method_3_code 4 = .ok (.arraylength, 1) := by decide +kernel
theorem d_jdk_42_method_3_code_5 : decode jdk_42_method_3_code 5 = .ok (.aconst_null, 1) := by decide +kernel
theorem pd_oaCIILjavaslangsVoidecV : parseMethodDescriptor "([CIILjava/lang/Void;)V" = some ⟨[(.array .char), .int, .int, (.object "java/lang/Void")], none⟩ := by decide +kernel
theorem d_jdk_42_method_3_code_6 : decode jdk_42_method_3_code 6 = .ok (.invokespecial 27, 3) := by decide +kernel
theorem d_jdk_42_method_3_code_9 : decode jdk_42_method_3_code 9 = .ok (.return_, 1) := by decide +kernel
theorem ef_rmE1 (m : MethodId) (x0 : Addr) (x1 : Addr) : entryFrame m #[(.ref x0), (.ref x1)] 2 = mkF m 0 #[.val (.ref x0), .val (.ref x1)] [] := by first | (simp [entryFrame, mkF, argsToLocals, Value.category]; done) | rfl
set_option maxRecDepth 65536 in
set_option maxHeartbeats 40000000 in
theorem rmE1 (l : Launch) (Z : State) (a0 : Array Value) (hw : ∀ d ∈ tables_1, d.before a0 Z = true) (ws : List Jvm.Cond) (x b : Addr) (k : ClassId) (dv : Value) (h0 : Heap) (n0 : Nat) (Z0 : n0 ≤ h0.size) (g_x : n0 ≤ x) (Ex : Exa Z h0 x "java/lang/String") (Fv : Fld Z h0 x "java/lang/String" "value" "[B" .null) (Fc : Fld Z h0 x "java/lang/String" "coder" "B" (.int (0 : Int32))) (Vb : Arv Z h0 b k .char (0 : Int32) [] dv) :
    MetFree l (⟨"java/lang/String", "<init>", "([C)V"⟩ : MethodName) (head1 (Jvm.Cond.code (⟨"java/lang/String", "<init>", "([C)V"⟩ : MethodName) jdk_42_method_3_code 2 (none) :: ws) ({ frames := 2, cells := 4, slots := 8, locals := 29 } : Room)) (fun aa U => aa = #[(.ref x), (.ref b)] ∧ Z.Warmed39 U.vm ∧ U.heap = h0 ∧ CHv Z EL U.vm h0) (fun _ _ _ _ _ => True) (fun _ U o U' => ∃ v L, o = .returned v ∧ QE Z x h0 n0 v U'.heap L ∧ CHr Z EL U.vm U.heap U'.vm U'.heap ∧ ReturnedEndW U o U' L ({ frames := 2, cells := 4, slots := 8, locals := 29 } : Room).cells ({ frames := 2, cells := 4, slots := 8, locals := 29 } : Room).slots) := by
  refine MetFree.of_bodySF (plainFor_of_name pn_java_lang_String) hisR ?_
  intro p e s m args below meth c s₁ Bd hml0 hP hK
  obtain ⟨rfl, hZ, hh, hCH⟩ := hP
  have hx := Bd.exec
  have hby := Bd.bytes
  have hml : c.maxLocals = 2 := hml0
  have hown : s.vm.findClass "java/lang/String" = some m.cls := findClass_of_methodNamed Bd.named
  have hnm := (name_of_methodNamed Bd.named Bd.method).1
  have X0 : Stand p l e ({ frames := 2, cells := 4, slots := 8, locals := 29 } : Room) s m #[(.ref x), (.ref b)] below meth c s₁ [] 0 0 := Stand.of_body Bd
  have e0 : s₁.heap = h0 := by rw [← hh, Bd.state]; rfl
  have N0 := Fr.nil n0
  have K0 := Keep.refl h0 [x]
  obtain ⟨S0, hS0⟩ : ∃ z, z = s₁.setTop (entryFrame m #[(.ref x), (.ref b)] 2) := ⟨_, rfl⟩
  rw [← hS0]
  have c0 : Steps p.tables e below S0 (s₁.setTop (mkF m 0 #[.val (.ref x), .val (.ref b)] [])) := by
    rw [hS0]; exact castTop (ef_rmE1 m x b) (Steps.refl _)
  have X0 : Stand p l e ({ frames := 2, cells := 4, slots := 8, locals := 29 } : Room) (s.setVm s.vm) m #[(.ref x), (.ref b)] below meth c s₁ [] 0 0 := X0
  have hS0 : s.Since s.vm 0 := own_since s
  have R0 : CHr Z EL s.vm h0 s.vm h0 := CHr.refl hCH
  have hEL := own_EW hw
  have hwS := own_strw hw
  have c1 : Steps p.tables e below S0 (s₁.setTop (mkF m 4 #[.val (.ref x), .val (.ref b)] [(.ref b), (.int (0 : Int32)), (.ref b), (.ref x)])) := c0.trans (by
    show Steps p.tables e below (s₁.setTop (mkF m 0 #[.val (.ref x), .val (.ref b)] [])) _
    refine XS.aloadN X0.here hx rfl (hb hby d_jdk_42_method_3_code_0) rfl rfl ?_
    refine XS.aloadN X0.here hx rfl (hb hby d_jdk_42_method_3_code_1) rfl rfl ?_
    refine XS.iconst X0.here hx rfl (hb hby d_jdk_42_method_3_code_2) ?_
    refine XS.aloadN X0.here hx rfl (hb hby d_jdk_42_method_3_code_3) rfl rfl ?_
    exact Steps.refl _)
  obtain ⟨cl2, Ar2, -, S2, Nn2, -, -⟩ := id Vb
  have c3 : Steps p.tables e below S0 (s₁.setTop (mkF m 6 #[.val (.ref x), .val (.ref b)] [.null, (.int (0 : Int32)), (.int (0 : Int32)), (.ref b), (.ref x)])) := c1.trans (by
    show Steps p.tables e below (s₁.setTop (mkF m 4 #[.val (.ref x), .val (.ref b)] [(.ref b), (.int (0 : Int32)), (.ref b), (.ref x)])) _
    refine X0.arraylength hx (by rw [e0]; exact Ar2.1) (State.isArrayOf_alike hZ.alike Ar2.2.1) (g := (mkF m 4 #[.val (.ref x), .val (.ref b)] [(.ref b), (.int (0 : Int32)), (.ref b), (.ref x)])) rfl rfl (hb hby d_jdk_42_method_3_code_4) _ ?_
    rw [len_of S2 Nn2]
    refine XS.aconstNull X0.here hx rfl (hb hby d_jdk_42_method_3_code_5) ?_
    exact Steps.refl _)
  obtain ⟨_, _, ⟨T4, L4, kk4, nn4⟩, -, Xx4, hSx4, hgx4, ⟨Lc4, hQ4, l4, y4, z4, r4⟩, st4⟩ := X0.specialBackS hx (y := (⟨"java/lang/String", "<init>", "([CIILjava/lang/Void;)V"⟩ : MethodName)) rfl hown (mvT hZ (hw _ (List.mem_of_getElem? (i := 15) rfl))) (mvT hZ (hw _ (List.mem_of_getElem? (i := 16) rfl))) (mvT hZ (hw _ (List.mem_of_getElem? (i := 18) rfl))) (by decide) (backOfSH (W := 0) (rmE4 l Z a0 hw [] x b h0 n0 Z0 g_x Ex Fv Fc) hZ (hw _ (List.mem_of_getElem? (i := 18) rfl)) (hw _ (List.mem_of_getElem? (i := 10) rfl)) (by decide) (by decide) hEL R0.1) (g := (mkF m 6 #[.val (.ref x), .val (.ref b)] [.null, (.int (0 : Int32)), (.int (0 : Int32)), (.ref b), (.ref x)])) rfl (by rw [hml]; rfl) (Steps.refl _) (a := x) (argsL := [(.ref b), (.int (0 : Int32)), (.int (0 : Int32)), .null]) (rest := []) (lenOf pd_oaCIILjavaslangsVoidecV rfl) rfl (by show 2 * 0 + _ ≤ _; exact Nat.le_of_eq rfl) (hb hby d_jdk_42_method_3_code_6) (fun _ _ => ⟨rfl, e0, (by decide : 0 + 4 ≤ _), (by decide : 0 + 8 ≤ _)⟩)
  dsimp only [Pt.U, Pt.locs, Pt.cells, Pt.slots] at Xx4 hSx4 hgx4 l4 y4 z4 r4 st4 hQ4
  subst l4 y4 z4
  obtain ⟨X4, hS4, hZ4, hown4⟩ := rebS hS0 (Nat.zero_le _) Xx4 hSx4 (e0 ▸ hgx4) hZ hown
  obtain ⟨t4, kb4, rfl, Nq4, Kq4, So4⟩ := hQ4
  have c5 : Steps p.tables e below S0 (T4.setTop (mkF m 9 #[.val (.ref x), .val (.ref b)] [])) := c3.trans (st4)
  have N4 := Fr.app N0 Nq4
  have z4 : n0 ≤ T4.heap.size := Nat.le_trans Z0 Kq4.1
  have K4 := K0.trans Kq4 (allS (Or.inl (by simp)) all0)
  have R4 := R0.trans r4
  obtain ⟨fs, hr, hrun, hended, hW⟩ := X4.leaveW hS4 (Nat.le_refl _) (v := none) (fun h => rfl)
  refine ⟨_, _, c5.trans (X4.returnOut hx Bd.returns (hb hby d_jdk_42_method_3_code_9) hr), hrun, hended, _, _, rfl, ?_, ?_, hW.1, hW.2.1, hW.2.2.1, hW.2.2.2.mono (by decide) (by decide)⟩
  · show QE Z x h0 n0 _ T4.heap _
    exact ⟨_, _, rfl, N4, K4, So4⟩
  · show CHr Z EL s.vm s.heap T4.vm T4.heap
    rw [hh]; exact R4.trans (CHv.at X4 hZ4 hEL R4.1)

def QcanE (Z : State) (h0 : Heap) (n0 : Nat) (v : Option Value) (h : Heap) (L : List Loc) : Prop := v = some (.int 1) ∧ Fr n0 L ∧ h = h0

theorem d_jdk_43_method_3_code_0 : decode jdk_43_method_3_code 0 = .ok (.iload_n 0, 1) := by decide +kernel
theorem d_jdk_43_method_3_code_1 : decode jdk_43_method_3_code 1 = .ok (.sipush 255, 3) := by decide +kernel
theorem d_jdk_43_method_3_code_4 : decode jdk_43_method_3_code 4 = .ok (.if_icmp .gt 7, 3) := by decide +kernel
theorem d_jdk_43_method_3_code_7 : decode jdk_43_method_3_code 7 = .ok (.iconst 1, 1) := by decide +kernel
theorem d_jdk_43_method_3_code_8 : decode jdk_43_method_3_code 8 = .ok (.goto 4, 3) := by decide +kernel
theorem d_jdk_43_method_3_code_12 : decode jdk_43_method_3_code 12 = .ok (.ireturn, 1) := by decide +kernel
theorem pn_java_lang_StringLatin1 : plainName "java/lang/StringLatin1" = true := by first | (simp [plainName, overriddenIn]; done) | decide +kernel
theorem ef_rmCanE (m : MethodId) (x0 : Int32) : entryFrame m #[(.int x0)] 1 = mkF m 0 #[.val (.int x0)] [] := by first | (simp [entryFrame, mkF, argsToLocals, Value.category]; done) | rfl
set_option maxRecDepth 65536 in
set_option maxHeartbeats 40000000 in
theorem rmCanE (l : Launch) (Z : State) (a0 : Array Value) (hw : ∀ d ∈ tables_1, d.before a0 Z = true) (ws : List Jvm.Cond) (ch : Int32) (h0 : Heap) (n0 : Nat) (Z0 : n0 ≤ h0.size) (hc : C8 ch) :
    MetFree l (⟨"java/lang/StringLatin1", "canEncode", "(C)Z"⟩ : MethodName) (head1 (Jvm.Cond.code (⟨"java/lang/StringLatin1", "canEncode", "(C)Z"⟩ : MethodName) jdk_43_method_3_code 1 (some .boolean) :: ws) ({ frames := 0, cells := 0, slots := 0, locals := 0 } : Room)) (fun aa U => aa = #[(.int ch)] ∧ Z.Warmed39 U.vm ∧ U.heap = h0) (fun _ _ _ _ _ => True) (fun _ U o U' => ∃ v L, o = .returned v ∧ QcanE Z  h0 n0 v U'.heap L ∧ FrameEnd U o U' L ({ frames := 0, cells := 0, slots := 0, locals := 0 } : Room).cells ({ frames := 0, cells := 0, slots := 0, locals := 0 } : Room).slots) := by
  refine MetFree.of_bodySF (plainFor_of_name pn_java_lang_StringLatin1) hisR ?_
  intro p e s m args below meth c s₁ Bd hml0 hP hK
  obtain ⟨rfl, hZ, hh⟩ := hP
  have hx := Bd.exec
  have hby := Bd.bytes
  have hml : c.maxLocals = 1 := hml0
  have hown : s.vm.findClass "java/lang/StringLatin1" = some m.cls := findClass_of_methodNamed Bd.named
  have hnm := (name_of_methodNamed Bd.named Bd.method).1
  have X0 : Stand p l e ({ frames := 0, cells := 0, slots := 0, locals := 0 } : Room) s m #[(.int ch)] below meth c s₁ [] 0 0 := Stand.of_body Bd
  have e0 : s₁.heap = h0 := by rw [← hh, Bd.state]; rfl
  have N0 := Fr.nil n0
  have K0 := Keep.refl h0 []
  obtain ⟨S0, hS0⟩ : ∃ z, z = s₁.setTop (entryFrame m #[(.int ch)] 1) := ⟨_, rfl⟩
  rw [← hS0]
  have c0 : Steps p.tables e below S0 (s₁.setTop (mkF m 0 #[.val (.int ch)] [])) := by
    rw [hS0]; exact castTop (ef_rmCanE m ch) (Steps.refl _)
  have c1 : Steps p.tables e below S0 (s₁.setTop (mkF m 12 #[.val (.int ch)] [(.int (1 : Int32))])) := c0.trans (by
    show Steps p.tables e below (s₁.setTop (mkF m 0 #[.val (.int ch)] [])) _
    refine XS.iloadN X0.here hx rfl (hb hby d_jdk_43_method_3_code_0) rfl ?_
    refine XS.sipush X0.here hx rfl (hb hby d_jdk_43_method_3_code_1) ?_
    refine XS.icmpNo X0.here hx rfl (hb hby d_jdk_43_method_3_code_4) rfl (flt hc.2).2.2.1 ?_
    refine XS.iconst X0.here hx rfl (hb hby d_jdk_43_method_3_code_7) ?_
    show Steps p.tables e below (s₁.setTop (mkF m 8 #[.val (.int ch)] [(.int (1 : Int32))])) _
    refine XS.goto X0.here hx rfl (pc0 := 8) (pc' := 12) rfl (hb hby d_jdk_43_method_3_code_8) (by decide) (by decide) ?_
    exact Steps.refl _)
  obtain ⟨fs, hr, hrun, hended, hW, hsame⟩ := X0.leave (v := some (.int (1 : Int32))) (fun h => by rw [Bd.returns] at h; cases h)
  refine ⟨_, _, c1.trans (retOut X0 hx Bd.returns rfl (Or.inl ⟨rfl, by simp, _, rfl⟩) (hb hby d_jdk_43_method_3_code_12) hr), hrun, hended, _, _, rfl, ?_, ⟨_, rfl⟩, hW, hsame.mono (by decide) (by decide)⟩
  show QcanE Z  h0 n0 _ s₁.heap _
  rw [e0]
  exact ⟨rfl, N0, rfl⟩

def QtoB (Z : State) (c : Int32) (h0 : Heap) (n0 : Nat) (v : Option Value) (h : Heap) (L : List Loc) : Prop := ∃ (t : Addr) (kb : ClassId), v = some (.ref t) ∧ Fr n0 L ∧ Keep h0 h [] ∧ h0.size ≤ t ∧ Arv Z h t kb .byte (1 : Int32) [.int c.toInt8.toInt32] (.int 0)

theorem d_jdk_43_method_46_code_0 : decode jdk_43_method_46_code 0 = .ok (.iconst 1, 1) := by decide +kernel
theorem d_jdk_43_method_46_code_1 : decode jdk_43_method_46_code 1 = .ok (.newarray .byte, 2) := by decide +kernel
theorem d_jdk_43_method_46_code_3 : decode jdk_43_method_46_code 3 = .ok (.dup, 1) := by decide +kernel
theorem d_jdk_43_method_46_code_4 : decode jdk_43_method_46_code 4 = .ok (.iconst 0, 1) := by decide +kernel
theorem d_jdk_43_method_46_code_5 : decode jdk_43_method_46_code 5 = .ok (.iload_n 0, 1) := by decide +kernel
theorem d_jdk_43_method_46_code_6 : decode jdk_43_method_46_code 6 = .ok (.i2b, 1) := by decide +kernel
theorem d_jdk_43_method_46_code_7 : decode jdk_43_method_46_code 7 = .ok (.bastore, 1) := by decide +kernel
theorem d_jdk_43_method_46_code_8 : decode jdk_43_method_46_code 8 = .ok (.areturn, 1) := by decide +kernel
theorem ef_rmToB (m : MethodId) (x0 : Int32) : entryFrame m #[(.int x0)] 1 = mkF m 0 #[.val (.int x0)] [] := by first | (simp [entryFrame, mkF, argsToLocals, Value.category]; done) | rfl
set_option maxRecDepth 65536 in
set_option maxHeartbeats 40000000 in
theorem rmToB (l : Launch) (Z : State) (a0 : Array Value) (hw : ∀ d ∈ tables_1, d.before a0 Z = true) (ws : List Jvm.Cond) (ch : Int32) (h0 : Heap) (n0 : Nat) (Z0 : n0 ≤ h0.size)  :
    MetFree l (⟨"java/lang/StringLatin1", "toBytes", "(C)[B"⟩ : MethodName) (head1 (Jvm.Cond.code (⟨"java/lang/StringLatin1", "toBytes", "(C)[B"⟩ : MethodName) jdk_43_method_46_code 1 (some (.array .byte)) :: ws) ({ frames := 0, cells := 1, slots := 1, locals := 0 } : Room)) (fun aa U => aa = #[(.int ch)] ∧ Z.Warmed39 U.vm ∧ U.heap = h0) (fun _ _ _ _ _ => True) (fun _ U o U' => ∃ v L, o = .returned v ∧ QtoB Z ch h0 n0 v U'.heap L ∧ FrameEnd U o U' L ({ frames := 0, cells := 1, slots := 1, locals := 0 } : Room).cells ({ frames := 0, cells := 1, slots := 1, locals := 0 } : Room).slots) := by
  refine MetFree.of_bodySF (plainFor_of_name pn_java_lang_StringLatin1) hisR ?_
  intro p e s m args below meth c s₁ Bd hml0 hP hK
  obtain ⟨rfl, hZ, hh⟩ := hP
  have hx := Bd.exec
  have hby := Bd.bytes
  have hml : c.maxLocals = 1 := hml0
  have hown : s.vm.findClass "java/lang/StringLatin1" = some m.cls := findClass_of_methodNamed Bd.named
  have hnm := (name_of_methodNamed Bd.named Bd.method).1
  have X0 : Stand p l e ({ frames := 0, cells := 1, slots := 1, locals := 0 } : Room) s m #[(.int ch)] below meth c s₁ [] 0 0 := Stand.of_body Bd
  have e0 : s₁.heap = h0 := by rw [← hh, Bd.state]; rfl
  have N0 := Fr.nil n0
  have K0 := Keep.refl h0 []
  obtain ⟨S0, hS0⟩ : ∃ z, z = s₁.setTop (entryFrame m #[(.int ch)] 1) := ⟨_, rfl⟩
  rw [← hS0]
  have c0 : Steps p.tables e below S0 (s₁.setTop (mkF m 0 #[.val (.int ch)] [])) := by
    rw [hS0]; exact castTop (ef_rmToB m ch) (Steps.refl _)
  have c1 : Steps p.tables e below S0 (s₁.setTop (mkF m 1 #[.val (.int ch)] [(.int (1 : Int32))])) := c0.trans (by
    show Steps p.tables e below (s₁.setTop (mkF m 0 #[.val (.int ch)] [])) _
    refine XS.iconst X0.here hx rfl (hb hby d_jdk_43_method_46_code_0) ?_
    exact Steps.refl _)
  obtain ⟨T2, h2, k2, X2, e2, E2, A2, st2⟩ := newP X0 hx hZ (hw _ (List.mem_of_getElem? (i := 27) rfl)) e0 (g := (mkF m 1 #[.val (.int ch)] [(.int (1 : Int32))])) rfl (hb hby d_jdk_43_method_46_code_1) rfl (by decide) (cap := 1) (by decide) (by decide) (by decide) (by decide)
  obtain ⟨b2, g2⟩ : ∃ z, z = h0.size := ⟨_, rfl⟩
  rw [← g2] at A2 st2
  have c3 : Steps p.tables e below S0 (T2.setTop (mkF m 3 #[.val (.int ch)] [(.ref b2)])) := c1.trans (st2 _ (Steps.refl _))
  have z2 : n0 ≤ h2.size := Nat.le_trans Z0 E2.1
  have K2 := K0.ext E2
  have V2 : Arv Z h2 b2 k2 .byte (1 : Int32) [(.int (0 : Int32))] (.int (0 : Int32)) := (Arv.new A2 (by decide)).pad (pad_rep [] (.int (0 : Int32)) 1)
  have lt_b2 : b2 < h2.size := V2.lt
  have c4 : Steps p.tables e below S0 (T2.setTop (mkF m 7 #[.val (.int ch)] [(.int (ch.toInt8.toInt32)), (.int (0 : Int32)), (.ref b2), (.ref b2)])) := c3.trans (by
    show Steps p.tables e below (T2.setTop (mkF m 3 #[.val (.int ch)] [(.ref b2)])) _
    refine XS.dup X2.here hx rfl (hb hby d_jdk_43_method_46_code_3) rfl rfl ?_
    refine XS.iconst X2.here hx rfl (hb hby d_jdk_43_method_46_code_4) ?_
    refine XS.iloadN X2.here hx rfl (hb hby d_jdk_43_method_46_code_5) rfl ?_
    refine XS.i2b X2.here hx rfl (hb hby d_jdk_43_method_46_code_6) rfl ?_
    exact Steps.refl _)
  obtain ⟨cl5, Ar5, q5, S5, Nn5, Ha5, G5⟩ := id V2
  obtain ⟨T5, h5, X5, e5, W5, st5⟩ := stB X2 hx hZ e2 Ar5 (j := (0 : Int32)) (inb_of S5 ⟨by decide, by decide⟩) (g := (mkF m 7 #[.val (.int ch)] [(.int (ch.toInt8.toInt32)), (.int (0 : Int32)), (.ref b2), (.ref b2)])) rfl rfl (hb hby d_jdk_43_method_46_code_7)
  have V5 : Arv Z h5 b2 k2 .byte (1 : Int32) [(.int ((ch.toInt8.toInt32).toInt8.toInt32))] (.int (0 : Int32)) := Arv.set Ar5 q5 S5 Nn5 Ha5 G5 (fits_nar_byte _) W5 0 rfl (Nat.le_of_ble_eq_true rfl)
  have c6 : Steps p.tables e below S0 (T5.setTop (mkF m 8 #[.val (.int ch)] [(.ref b2)])) := c4.trans (st5 _ (Steps.refl _))
  have N5 := Fr.snoc X5 N0 (Nat.le_trans Z0 (Nat.le_trans K0.1 (Nat.le_of_eq g2.symm)))
  have z5 : n0 ≤ h5.size := Nat.le_trans z2 (Keep.of_wr W5).1
  have K5 := K2.wr W5 (Or.inr (Nat.le_trans K0.1 (Nat.le_of_eq g2.symm)))
  obtain ⟨fs, hr, hrun, hended, hW, hsame⟩ := X5.leave (v := some (.ref b2)) (fun h => by rw [Bd.returns] at h; cases h)
  refine ⟨_, _, c6.trans (retOut X5 hx Bd.returns rfl (Or.inr (Or.inr (Or.inr (Or.inr ⟨rfl, rfl, rfl⟩)))) (hb hby d_jdk_43_method_46_code_8) hr), hrun, hended, _, _, rfl, ?_, ⟨_, rfl⟩, hW, hsame.mono (by decide) (by decide)⟩
  show QtoB Z ch h0 n0 _ T5.heap _
  rw [e5]
  exact ⟨_, _, rfl, N5, K5, (Nat.le_trans K0.1 (Nat.le_of_eq g2.symm)), own_b8 ch ▸ V5⟩

def QiBB (Z : State) (x t : Addr) (h0 : Heap) (n0 : Nat) (v : Option Value) (h : Heap) (L : List Loc) : Prop := v = none ∧ Fr n0 L ∧ Keep h0 h [x] ∧ Exa Z h x "java/lang/String" ∧ Fld Z h x "java/lang/String" "value" "[B" (.ref t) ∧ Fld Z h x "java/lang/String" "coder" "B" (.int 0)

theorem d_jdk_42_method_151_code_0 : decode jdk_42_method_151_code 0 = .ok (.aload_n 0, 1) := by decide +kernel
theorem d_jdk_42_method_151_code_1 : decode jdk_42_method_151_code 1 = .ok (.invokespecial 1, 3) := by decide +kernel
theorem d_jdk_42_method_151_code_4 : decode jdk_42_method_151_code 4 = .ok (.aload_n 0, 1) := by decide +kernel
theorem d_jdk_42_method_151_code_5 : decode jdk_42_method_151_code 5 = .ok (.aload_n 1, 1) := by decide +kernel
theorem d_jdk_42_method_151_code_6 : decode jdk_42_method_151_code 6 = .ok (.putfield 9, 3) := by decide +kernel
theorem d_jdk_42_method_151_code_9 : decode jdk_42_method_151_code 9 = .ok (.aload_n 0, 1) := by decide +kernel
theorem d_jdk_42_method_151_code_10 : decode jdk_42_method_151_code 10 = .ok (.iload_n 2, 1) := by decide +kernel
theorem d_jdk_42_method_151_code_11 : decode jdk_42_method_151_code 11 = .ok (.putfield 15, 3) := by decide +kernel
theorem d_jdk_42_method_151_code_14 : decode jdk_42_method_151_code 14 = .ok (.return_, 1) := by decide +kernel
theorem ef_rmIBB (m : MethodId) (x0 : Addr) (x1 : Addr) (x2 : Int32) : entryFrame m #[(.ref x0), (.ref x1), (.int x2)] 3 = mkF m 0 #[.val (.ref x0), .val (.ref x1), .val (.int x2)] [] := by first | (simp [entryFrame, mkF, argsToLocals, Value.category]; done) | rfl
set_option maxRecDepth 65536 in
set_option maxHeartbeats 40000000 in
theorem rmIBB (l : Launch) (Z : State) (a0 : Array Value) (hw : ∀ d ∈ tables_1, d.before a0 Z = true) (ws : List Jvm.Cond) (x t : Addr) (v0 c0 : Value) (h0 : Heap) (n0 : Nat) (Z0 : n0 ≤ h0.size) (g_x : n0 ≤ x) (Ex : Exa Z h0 x "java/lang/String") (Fv : Fld Z h0 x "java/lang/String" "value" "[B" v0) (Fc : Fld Z h0 x "java/lang/String" "coder" "B" c0) :
    MetFree l (⟨"java/lang/String", "<init>", "([BB)V"⟩ : MethodName) (head1 (Jvm.Cond.code (⟨"java/lang/String", "<init>", "([BB)V"⟩ : MethodName) jdk_42_method_151_code 3 (none) :: ws) ({ frames := 1, cells := 0, slots := 0, locals := 12 } : Room)) (fun aa U => aa = #[(.ref x), (.ref t), (.int (0 : Int32))] ∧ Z.Warmed39 U.vm ∧ U.heap = h0) (fun _ _ _ _ _ => True) (fun _ U o U' => ∃ v L, o = .returned v ∧ QiBB Z x t h0 n0 v U'.heap L ∧ FrameEnd U o U' L ({ frames := 1, cells := 0, slots := 0, locals := 12 } : Room).cells ({ frames := 1, cells := 0, slots := 0, locals := 12 } : Room).slots) := by
  refine MetFree.of_bodySF (plainFor_of_name pn_java_lang_String) hisR ?_
  intro p e s m args below meth c s₁ Bd hml0 hP hK
  obtain ⟨rfl, hZ, hh⟩ := hP
  have hx := Bd.exec
  have hby := Bd.bytes
  have hml : c.maxLocals = 3 := hml0
  have hown : s.vm.findClass "java/lang/String" = some m.cls := findClass_of_methodNamed Bd.named
  have hnm := (name_of_methodNamed Bd.named Bd.method).1
  have X0 : Stand p l e ({ frames := 1, cells := 0, slots := 0, locals := 12 } : Room) s m #[(.ref x), (.ref t), (.int (0 : Int32))] below meth c s₁ [] 0 0 := Stand.of_body Bd
  have e0 : s₁.heap = h0 := by rw [← hh, Bd.state]; rfl
  have N0 := Fr.nil n0
  have K0 := Keep.refl h0 [x]
  obtain ⟨S0, hS0⟩ : ∃ z, z = s₁.setTop (entryFrame m #[(.ref x), (.ref t), (.int (0 : Int32))] 3) := ⟨_, rfl⟩
  rw [← hS0]
  have c0 : Steps p.tables e below S0 (s₁.setTop (mkF m 0 #[.val (.ref x), .val (.ref t), .val (.int (0 : Int32))] [])) := by
    rw [hS0]; exact castTop (ef_rmIBB m x t (0 : Int32)) (Steps.refl _)
  have c1 : Steps p.tables e below S0 (s₁.setTop (mkF m 1 #[.val (.ref x), .val (.ref t), .val (.int (0 : Int32))] [(.ref x)])) := c0.trans (by
    show Steps p.tables e below (s₁.setTop (mkF m 0 #[.val (.ref x), .val (.ref t), .val (.int (0 : Int32))] [])) _
    refine XS.aloadN X0.here hx rfl (hb hby d_jdk_42_method_151_code_0) rfl rfl ?_
    exact Steps.refl _)
  obtain ⟨T2, X2, e2, st2⟩ := initO X0 hx hZ hown (hw _ (List.mem_of_getElem? (i := 19) rfl)) (hw _ (List.mem_of_getElem? (i := 20) rfl)) (hw _ (List.mem_of_getElem? (i := 21) rfl)) e0 (g := (mkF m 1 #[.val (.ref x), .val (.ref t), .val (.int (0 : Int32))] [(.ref x)])) rfl (by rw [hml]; rfl) rfl (hb hby d_jdk_42_method_151_code_1) (by decide) (W := 0) (by show 2 * 0 + _ ≤ _; exact Nat.le_of_eq rfl) (by decide)
  have c3 : Steps p.tables e below S0 (T2.setTop (mkF m 4 #[.val (.ref x), .val (.ref t), .val (.int (0 : Int32))] [])) := c1.trans (st2 _ (Steps.refl _))
  have c4 : Steps p.tables e below S0 (T2.setTop (mkF m 6 #[.val (.ref x), .val (.ref t), .val (.int (0 : Int32))] [(.ref t), (.ref x)])) := c3.trans (by
    show Steps p.tables e below (T2.setTop (mkF m 4 #[.val (.ref x), .val (.ref t), .val (.int (0 : Int32))] [])) _
    refine XS.aloadN X2.here hx rfl (hb hby d_jdk_42_method_151_code_4) rfl rfl ?_
    refine XS.aloadN X2.here hx rfl (hb hby d_jdk_42_method_151_code_5) rfl rfl ?_
    exact Steps.refl _)
  obtain ⟨T5, h5, X5, e5, W5, st5⟩ := putF X2 hx hZ hown (host := "") (Or.inl (hw _ (List.mem_of_getElem? (i := 36) rfl))) Via.refl e2 Fv Ex (Or.inr ⟨(hw _ (List.mem_of_getElem? (i := 37) rfl)), rfl, hnm⟩) (hw _ (List.mem_of_getElem? (i := 9) rfl)) (ty := (.array .byte)) (by decide) rfl rfl (g := (mkF m 6 #[.val (.ref x), .val (.ref t), .val (.int (0 : Int32))] [(.ref t), (.ref x)])) rfl rfl (hb hby d_jdk_42_method_151_code_6)
  have c6 : Steps p.tables e below S0 (T5.setTop (mkF m 9 #[.val (.ref x), .val (.ref t), .val (.int (0 : Int32))] [])) := c4.trans (st5 _ (Steps.refl _))
  have N5 := Fr.snoc X5 N0 g_x
  have Fw5 := Fv.same W5
  have z5 : n0 ≤ h5.size := Nat.le_trans Z0 (Keep.of_wr W5).1
  have K5 := K0.wr W5 (Or.inl (by simp))
  have c7 : Steps p.tables e below S0 (T5.setTop (mkF m 11 #[.val (.ref x), .val (.ref t), .val (.int (0 : Int32))] [(.int (0 : Int32)), (.ref x)])) := c6.trans (by
    show Steps p.tables e below (T5.setTop (mkF m 9 #[.val (.ref x), .val (.ref t), .val (.int (0 : Int32))] [])) _
    refine XS.aloadN X5.here hx rfl (hb hby d_jdk_42_method_151_code_9) rfl rfl ?_
    refine XS.iloadN X5.here hx rfl (hb hby d_jdk_42_method_151_code_10) rfl ?_
    exact Steps.refl _)
  obtain ⟨T8, h8, X8, e8, W8, st8⟩ := putFN X5 hx hZ hown (hw _ (List.mem_of_getElem? (i := 34) rfl)) Via.refl e5 (Fc.other W5 (Or.inr (slot_ne (Or.inr (hw _ (List.mem_of_getElem? (i := 35) rfl))) (Or.inr (hw _ (List.mem_of_getElem? (i := 37) rfl))) (by decide) (t := .byte) (t' := (.array .byte)) (by decide) (by decide)))) (Ex.wr W5) (Or.inr ⟨(hw _ (List.mem_of_getElem? (i := 35) rfl)), rfl, hnm⟩) (hw _ (List.mem_of_getElem? (i := 9) rfl)) (ty := .byte) (v' := (.int (0 : Int32))) (by decide) rfl rfl (g := (mkF m 11 #[.val (.ref x), .val (.ref t), .val (.int (0 : Int32))] [(.int (0 : Int32)), (.ref x)])) rfl rfl (hb hby d_jdk_42_method_151_code_11)
  have c9 : Steps p.tables e below S0 (T8.setTop (mkF m 14 #[.val (.ref x), .val (.ref t), .val (.int (0 : Int32))] [])) := c7.trans (st8 _ (Steps.refl _))
  have N8 := Fr.snoc X8 N5 g_x
  have Fw8 := (Fc.other W5 (Or.inr (slot_ne (Or.inr (hw _ (List.mem_of_getElem? (i := 35) rfl))) (Or.inr (hw _ (List.mem_of_getElem? (i := 37) rfl))) (by decide) (t := .byte) (t' := (.array .byte)) (by decide) (by decide)))).same W8
  have z8 : n0 ≤ h8.size := Nat.le_trans z5 (Keep.of_wr W8).1
  have K8 := K5.wr W8 (Or.inl (by simp))
  obtain ⟨fs, hr, hrun, hended, hW, hsame⟩ := X8.leave (v := none) (fun h => rfl)
  refine ⟨_, _, c9.trans (X8.returnOut hx Bd.returns (hb hby d_jdk_42_method_151_code_14) hr), hrun, hended, _, _, rfl, ?_, ⟨_, rfl⟩, hW, hsame.mono (by decide) (by decide)⟩
  show QiBB Z x t h0 n0 _ T8.heap _
  rw [e8]
  exact ⟨rfl, N8, K8, ((Ex.wr W5).wr W8), (Fw5.other W8 (Or.inr (slot_ne (Or.inr (hw _ (List.mem_of_getElem? (i := 37) rfl))) (Or.inr (hw _ (List.mem_of_getElem? (i := 35) rfl))) (by decide) (t := (.array .byte)) (t' := .byte) (by decide) (by decide)))), Fw8⟩

def QvalC (Z : State) (c : Int32) (h0 : Heap) (n0 : Nat) (v : Option Value) (h : Heap) (L : List Loc) : Prop := ∃ (x t : Addr) (kb : ClassId), v = some (.ref x) ∧ Fr n0 L ∧ Keep h0 h [] ∧ h0.size ≤ x ∧ h0.size ≤ t ∧ OStr Z h x t kb [c]

theorem d_jdk_42_method_139_code_0 : decode jdk_42_method_139_code 0 = .ok (.getstatic 38, 3) := by decide +kernel
theorem d_jdk_42_method_139_code_3 : decode jdk_42_method_139_code 3 = .ok (.ifCond .eq 23, 3) := by decide +kernel
theorem d_jdk_42_method_139_code_6 : decode jdk_42_method_139_code 6 = .ok (.iload_n 0, 1) := by decide +kernel
theorem pd_oCcZ : parseMethodDescriptor "(C)Z" = some ⟨[.char], some .boolean⟩ := by decide +kernel
theorem d_jdk_42_method_139_code_7 : decode jdk_42_method_139_code 7 = .ok (.invokestatic 1015, 3) := by decide +kernel
theorem d_jdk_42_method_139_code_10 : decode jdk_42_method_139_code 10 = .ok (.ifCond .eq 16, 3) := by decide +kernel
theorem d_jdk_42_method_139_code_13 : decode jdk_42_method_139_code 13 = .ok (.new 10, 3) := by decide +kernel
theorem d_jdk_42_method_139_code_16 : decode jdk_42_method_139_code 16 = .ok (.dup, 1) := by decide +kernel
theorem d_jdk_42_method_139_code_17 : decode jdk_42_method_139_code 17 = .ok (.iload_n 0, 1) := by decide +kernel
theorem pd_oCcaB : parseMethodDescriptor "(C)[B" = some ⟨[.char], some (.array .byte)⟩ := by decide +kernel
theorem d_jdk_42_method_139_code_18 : decode jdk_42_method_139_code 18 = .ok (.invokestatic 1018, 3) := by decide +kernel
theorem d_jdk_42_method_139_code_21 : decode jdk_42_method_139_code 21 = .ok (.iconst 0, 1) := by decide +kernel
theorem pd_oaBBcV : parseMethodDescriptor "([BB)V" = some ⟨[(.array .byte), .byte], none⟩ := by decide +kernel
theorem d_jdk_42_method_139_code_22 : decode jdk_42_method_139_code 22 = .ok (.invokespecial 209, 3) := by decide +kernel
theorem d_jdk_42_method_139_code_25 : decode jdk_42_method_139_code 25 = .ok (.areturn, 1) := by decide +kernel
theorem ef_rmValC (m : MethodId) (x0 : Int32) : entryFrame m #[(.int x0)] 1 = mkF m 0 #[.val (.int x0)] [] := by first | (simp [entryFrame, mkF, argsToLocals, Value.category]; done) | rfl
set_option maxRecDepth 65536 in
set_option maxHeartbeats 40000000 in
theorem rmValC (l : Launch) (Z : State) (a0 : Array Value) (hw : ∀ d ∈ tables_1, d.before a0 Z = true) (ws : List Jvm.Cond) (ch : Int32) (G1 : Int32) (h0 : Heap) (n0 : Nat) (Z0 : n0 ≤ h0.size) (hc : C8 ch) (O2 : Sta Z Z.heap "java/lang/String" "COMPACT_STRINGS" "Z" (.int G1)) (P5 : ¬ G1 = 0) (X00 : Old Z n0 h0) :
    MetFree l (⟨"java/lang/String", "valueOf", "(C)Ljava/lang/String;"⟩ : MethodName) (head1 (Jvm.Cond.code (⟨"java/lang/String", "valueOf", "(C)Ljava/lang/String;"⟩ : MethodName) jdk_42_method_139_code 1 (some (.object "java/lang/String")) :: ws) ({ frames := 2, cells := 2, slots := 5, locals := 27 } : Room)) (fun aa U => aa = #[(.int ch)] ∧ Z.Warmed39 U.vm ∧ U.heap = h0) (fun _ _ _ _ _ => True) (fun _ U o U' => ∃ v L, o = .returned v ∧ QvalC Z ch h0 n0 v U'.heap L ∧ FrameEnd U o U' L ({ frames := 2, cells := 2, slots := 5, locals := 27 } : Room).cells ({ frames := 2, cells := 2, slots := 5, locals := 27 } : Room).slots) := by
  refine MetFree.of_bodySF (plainFor_of_name pn_java_lang_String) hisR ?_
  intro p e s m args below meth c s₁ Bd hml0 hP hK
  obtain ⟨rfl, hZ, hh⟩ := hP
  have hx := Bd.exec
  have hby := Bd.bytes
  have hml : c.maxLocals = 1 := hml0
  have hown : s.vm.findClass "java/lang/String" = some m.cls := findClass_of_methodNamed Bd.named
  have hnm := (name_of_methodNamed Bd.named Bd.method).1
  have X0 : Stand p l e ({ frames := 2, cells := 2, slots := 5, locals := 27 } : Room) s m #[(.int ch)] below meth c s₁ [] 0 0 := Stand.of_body Bd
  have e0 : s₁.heap = h0 := by rw [← hh, Bd.state]; rfl
  have N0 := Fr.nil n0
  have K0 := Keep.refl h0 []
  obtain ⟨S0, hS0⟩ : ∃ z, z = s₁.setTop (entryFrame m #[(.int ch)] 1) := ⟨_, rfl⟩
  rw [← hS0]
  have c0 : Steps p.tables e below S0 (s₁.setTop (mkF m 0 #[.val (.int ch)] [])) := by
    rw [hS0]; exact castTop (ef_rmValC m ch) (Steps.refl _)
  obtain ⟨T1, X1, e1, st1⟩ := getS2 X0 hx hZ hown (host := "") (Or.inl (hw _ (List.mem_of_getElem? (i := 22) rfl))) Via.refl e0 (O2.ext X00.2) (g := (mkF m 0 #[.val (.int ch)] [])) rfl (hb hby d_jdk_42_method_139_code_0)
  have c2 : Steps p.tables e below S0 (T1.setTop (mkF m 3 #[.val (.int ch)] [(.int G1)])) := c0.trans (st1 _ (Steps.refl _))
  have c3 : Steps p.tables e below S0 (T1.setTop (mkF m 7 #[.val (.int ch)] [(.int ch)])) := c2.trans (by
    show Steps p.tables e below (T1.setTop (mkF m 3 #[.val (.int ch)] [(.int G1)])) _
    refine XS.ifNo X1.here hx rfl (hb hby d_jdk_42_method_139_code_3) rfl ((if0 _ _).trans (feq P5).1) ?_
    refine XS.iloadN X1.here hx rfl (hb hby d_jdk_42_method_139_code_6) rfl ?_
    exact Steps.refl _)
  obtain ⟨_, _, ⟨T4, L4, kk4, nn4⟩, -, X4, ⟨Lc4, hQ4, l4, y4, z4⟩, st4⟩ := Jvm.LawKit.callS X1 hx (y := (⟨"java/lang/StringLatin1", "canEncode", "(C)Z"⟩ : MethodName)) hown (mvT hZ (hw _ (List.mem_of_getElem? (i := 41) rfl))) (mvT hZ (hw _ (List.mem_of_getElem? (i := 42) rfl))) (mvT hZ (hw _ (List.mem_of_getElem? (i := 43) rfl))) (mvT hZ (hw _ (List.mem_of_getElem? (i := 44) rfl))) (by decide) (backOf (W := 0) (rmCanE l Z a0 hw [] ch h0 n0 Z0 hc) hZ (hw _ (List.mem_of_getElem? (i := 44) rfl)) (hw _ (List.mem_of_getElem? (i := 43) rfl)) (by decide) (by decide)) (g := (mkF m 7 #[.val (.int ch)] [(.int ch)])) rfl (by rw [hml]; rfl) (argsL := [(.int ch)]) (rest := []) (lenOf pd_oCcZ rfl) rfl (by show 2 * 0 + _ ≤ _; exact Nat.le_of_eq rfl) (hb hby d_jdk_42_method_139_code_7) (fun _ _ => ⟨rfl, e1, (by decide : 0 + 0 ≤ _), (by decide : 0 + 0 ≤ _)⟩)
  dsimp only [Pt.U, Pt.locs, Pt.cells, Pt.slots] at X4 l4 y4 z4 st4 hQ4
  subst l4 y4 z4
  obtain ⟨rfl, Nq4, eq4⟩ := hQ4
  have c5 : Steps p.tables e below S0 (T4.setTop (mkF m 10 #[.val (.int ch)] [(.int (1 : Int32))])) := c3.trans (st4 _ (Steps.refl _))
  have N4 := Fr.app N0 Nq4
  have c6 : Steps p.tables e below S0 (T4.setTop (mkF m 13 #[.val (.int ch)] [])) := c5.trans (by
    show Steps p.tables e below (T4.setTop (mkF m 10 #[.val (.int ch)] [(.int (1 : Int32))])) _
    refine XS.ifNo X4.here hx rfl (hb hby d_jdk_42_method_139_code_10) rfl ((if0 _ _).trans (feq (by decide : ¬ (1 : Int32) = 0)).1) ?_
    exact Steps.refl _)
  obtain ⟨T7, h7, X7, e7, E7, A7, D7, -, st7⟩ := newO X4 hx hZ hown (hw _ (List.mem_of_getElem? (i := 45) rfl)) (hw _ (List.mem_of_getElem? (i := 9) rfl)) (hw _ (List.mem_of_getElem? (i := 10) rfl)) eq4 (g := (mkF m 13 #[.val (.int ch)] [])) rfl (hb hby d_jdk_42_method_139_code_13) (by decide) (by decide)
  obtain ⟨b7, g7⟩ : ∃ z, z = h0.size := ⟨_, rfl⟩
  rw [← g7] at A7 D7 st7
  have c8 : Steps p.tables e below S0 (T7.setTop (mkF m 16 #[.val (.int ch)] [(.ref b7)])) := c6.trans (st7 _ (Steps.refl _))
  have z7 : n0 ≤ h7.size := Nat.le_trans Z0 E7.1
  have K7 := K0.ext E7
  have lt_b7 : b7 < h7.size := A7.lt
  have F7_coder : Fld Z h7 b7 "java/lang/String" "coder" "B" (.int (0 : Int32)) := D7 (Or.inr (hw _ (List.mem_of_getElem? (i := 35) rfl))) (ty := .byte) (by decide)
  have F7_value : Fld Z h7 b7 "java/lang/String" "value" "[B" .null := D7 (Or.inr (hw _ (List.mem_of_getElem? (i := 37) rfl))) (ty := (.array .byte)) (by decide)
  have c9 : Steps p.tables e below S0 (T7.setTop (mkF m 18 #[.val (.int ch)] [(.int ch), (.ref b7), (.ref b7)])) := c8.trans (by
    show Steps p.tables e below (T7.setTop (mkF m 16 #[.val (.int ch)] [(.ref b7)])) _
    refine XS.dup X7.here hx rfl (hb hby d_jdk_42_method_139_code_16) rfl rfl ?_
    refine XS.iloadN X7.here hx rfl (hb hby d_jdk_42_method_139_code_17) rfl ?_
    exact Steps.refl _)
  obtain ⟨_, _, ⟨T10, L10, kk10, nn10⟩, -, X10, ⟨Lc10, hQ10, l10, y10, z10⟩, st10⟩ := Jvm.LawKit.callS X7 hx (y := (⟨"java/lang/StringLatin1", "toBytes", "(C)[B"⟩ : MethodName)) hown (mvT hZ (hw _ (List.mem_of_getElem? (i := 46) rfl))) (mvT hZ (hw _ (List.mem_of_getElem? (i := 47) rfl))) (mvT hZ (hw _ (List.mem_of_getElem? (i := 43) rfl))) (mvT hZ (hw _ (List.mem_of_getElem? (i := 48) rfl))) (by decide) (backOf (W := 2) (rmToB l Z a0 hw [] ch h7 n0 z7) hZ (hw _ (List.mem_of_getElem? (i := 48) rfl)) (hw _ (List.mem_of_getElem? (i := 43) rfl)) (by decide) (by decide)) (g := (mkF m 18 #[.val (.int ch)] [(.int ch), (.ref b7), (.ref b7)])) rfl (by rw [hml]; rfl) (argsL := [(.int ch)]) (rest := [(.ref b7), (.ref b7)]) (lenOf pd_oCcaB rfl) rfl (by show 2 * 0 + _ ≤ _; exact Nat.le_of_eq rfl) (hb hby d_jdk_42_method_139_code_18) (fun _ _ => ⟨rfl, e7, (by decide : 1 + 1 ≤ _), (by decide : 4 + 1 ≤ _)⟩)
  dsimp only [Pt.U, Pt.locs, Pt.cells, Pt.slots] at X10 l10 y10 z10 st10 hQ10
  subst l10 y10 z10
  obtain ⟨t10, kb10, rfl, Nq10, Kq10, gt10, Vt10⟩ := hQ10
  have c11 : Steps p.tables e below S0 (T10.setTop (mkF m 21 #[.val (.int ch)] [(.ref t10), (.ref b7), (.ref b7)])) := c9.trans (st10 _ (Steps.refl _))
  have N10 := Fr.app N4 Nq10
  have z10 : n0 ≤ T10.heap.size := Nat.le_trans z7 Kq10.1
  have K10 := K7.trans Kq10 all0
  have lt_t10 := Vt10.lt
  have c12 : Steps p.tables e below S0 (T10.setTop (mkF m 22 #[.val (.int ch)] [(.int (0 : Int32)), (.ref t10), (.ref b7), (.ref b7)])) := c11.trans (by
    show Steps p.tables e below (T10.setTop (mkF m 21 #[.val (.int ch)] [(.ref t10), (.ref b7), (.ref b7)])) _
    refine XS.iconst X10.here hx rfl (hb hby d_jdk_42_method_139_code_21) ?_
    exact Steps.refl _)
  obtain ⟨_, _, ⟨T13, L13, kk13, nn13⟩, -, X13, ⟨Lc13, hQ13, l13, y13, z13⟩, st13⟩ := X10.specialBack hx (y := (⟨"java/lang/String", "<init>", "([BB)V"⟩ : MethodName)) rfl hown (mvT hZ (hw _ (List.mem_of_getElem? (i := 49) rfl))) (mvT hZ (hw _ (List.mem_of_getElem? (i := 50) rfl))) (mvT hZ (hw _ (List.mem_of_getElem? (i := 51) rfl))) (by decide) (backOf (W := 1) (rmIBB l Z a0 hw [] b7 t10 _ _ T10.heap n0 z10 (Nat.le_trans Z0 (Nat.le_trans K0.1 (Nat.le_of_eq g7.symm))) (A7.keep Kq10) (F7_value.keep Kq10 nin0) (F7_coder.keep Kq10 nin0)) hZ (hw _ (List.mem_of_getElem? (i := 51) rfl)) (hw _ (List.mem_of_getElem? (i := 10) rfl)) (by decide) (by decide)) (g := (mkF m 22 #[.val (.int ch)] [(.int (0 : Int32)), (.ref t10), (.ref b7), (.ref b7)])) rfl (by rw [hml]; rfl) (Steps.refl _) (a := b7) (argsL := [(.ref t10), (.int (0 : Int32))]) (rest := [(.ref b7)]) (lenOf pd_oaBBcV rfl) rfl (by show 2 * 0 + _ ≤ _; exact Nat.le_of_eq rfl) (hb hby d_jdk_42_method_139_code_22) (fun _ _ => ⟨rfl, rfl, (by decide : 2 + 0 ≤ _), (by decide : 5 + 0 ≤ _)⟩)
  dsimp only [Pt.U, Pt.locs, Pt.cells, Pt.slots] at X13 l13 y13 z13 st13 hQ13
  subst l13 y13 z13
  obtain ⟨rfl, Nq13, Kq13, Ei13, Fv13, Fc13⟩ := hQ13
  have c14 : Steps p.tables e below S0 (T13.setTop (mkF m 25 #[.val (.int ch)] [(.ref b7)])) := c12.trans (st13)
  have N13 := Fr.app N10 Nq13
  have z13 : n0 ≤ T13.heap.size := Nat.le_trans z10 Kq13.1
  have K13 := K10.trans Kq13 (allS (Or.inr (Nat.le_trans K0.1 (Nat.le_of_eq g7.symm))) all0)
  obtain ⟨fs, hr, hrun, hended, hW, hsame⟩ := X13.leave (v := some (.ref b7)) (fun h => by rw [Bd.returns] at h; cases h)
  refine ⟨_, _, c14.trans (retOut X13 hx Bd.returns rfl (Or.inr (Or.inr (Or.inr (Or.inr ⟨rfl, rfl, rfl⟩)))) (hb hby d_jdk_42_method_139_code_25) hr), hrun, hended, _, _, rfl, ?_, ⟨_, rfl⟩, hW, hsame.mono (by decide) (by decide)⟩
  show QvalC Z ch h0 n0 _ T13.heap _
  exact ⟨_, _, _, rfl, N13, K13, (Nat.le_trans K0.1 (Nat.le_of_eq g7.symm)), (Nat.le_trans K7.1 gt10), Ei13, Fv13, Fc13, (Vt10.keep Kq13 (ninS (Ne.symm (Nat.ne_of_lt (Nat.lt_of_lt_of_le lt_b7 gt10))) nin0)), own_alS hc own_al0, Nat.le_of_ble_eq_true rfl⟩

def QSg (Z : State) (p : Int32) (h0 : Heap) (n0 : Nat) (v : Option Value) (h : Heap) (L : List Loc) : Prop := ∃ (x t : Addr) (kb : ClassId) (cs : List Int32), v = some (.ref x) ∧ Fr n0 L ∧ Keep h0 h [] ∧ h0.size ≤ x ∧ OStr Z h x t kb cs ∧ (cs.length = 0 ↔ p &&& 3 = 0)

theorem d_method_2_code_0 : decode method_2_code 0 = .ok (.iload_n 0, 1) := by decide +kernel
theorem d_method_2_code_1 : decode method_2_code 1 = .ok (.iconst 3, 1) := by decide +kernel
theorem d_method_2_code_2 : decode method_2_code 2 = .ok (.iand, 1) := by decide +kernel
theorem d_method_2_code_3 : decode method_2_code 3 = .ok (.istore_n 1, 1) := by decide +kernel
theorem d_method_2_code_4 : decode method_2_code 4 = .ok (.iload_n 0, 1) := by decide +kernel
theorem d_method_2_code_5 : decode method_2_code 5 = .ok (.iconst 2, 1) := by decide +kernel
theorem d_method_2_code_6 : decode method_2_code 6 = .ok (.iushr, 1) := by decide +kernel
theorem d_method_2_code_7 : decode method_2_code 7 = .ok (.sipush 255, 3) := by decide +kernel
theorem d_method_2_code_10 : decode method_2_code 10 = .ok (.iand, 1) := by decide +kernel
theorem d_method_2_code_11 : decode method_2_code 11 = .ok (.i2c, 1) := by decide +kernel
theorem d_method_2_code_12 : decode method_2_code 12 = .ok (.istore_n 2, 1) := by decide +kernel
theorem d_method_2_code_13 : decode method_2_code 13 = .ok (.iload_n 0, 1) := by decide +kernel
theorem d_method_2_code_14 : decode method_2_code 14 = .ok (.bipush 10, 2) := by decide +kernel
theorem d_method_2_code_16 : decode method_2_code 16 = .ok (.iushr, 1) := by decide +kernel
theorem d_method_2_code_17 : decode method_2_code 17 = .ok (.sipush 255, 3) := by decide +kernel
theorem d_method_2_code_20 : decode method_2_code 20 = .ok (.iand, 1) := by decide +kernel
theorem d_method_2_code_21 : decode method_2_code 21 = .ok (.i2c, 1) := by decide +kernel
theorem d_method_2_code_22 : decode method_2_code 22 = .ok (.istore_n 3, 1) := by decide +kernel
theorem d_method_2_code_23 : decode method_2_code 23 = .ok (.iload_n 0, 1) := by decide +kernel
theorem d_method_2_code_24 : decode method_2_code 24 = .ok (.bipush 18, 2) := by decide +kernel
theorem d_method_2_code_26 : decode method_2_code 26 = .ok (.iushr, 1) := by decide +kernel
theorem d_method_2_code_27 : decode method_2_code 27 = .ok (.sipush 255, 3) := by decide +kernel
theorem d_method_2_code_30 : decode method_2_code 30 = .ok (.iand, 1) := by decide +kernel
theorem d_method_2_code_31 : decode method_2_code 31 = .ok (.i2c, 1) := by decide +kernel
theorem d_method_2_code_32 : decode method_2_code 32 = .ok (.istore 4, 2) := by decide +kernel
theorem d_method_2_code_34 : decode method_2_code 34 = .ok (.iload_n 1, 1) := by decide +kernel
theorem d_method_2_code_35 : decode method_2_code 35 = .ok (.ifCond .ne 14, 3) := by decide +kernel
theorem d_method_2_code_38 : decode method_2_code 38 = .ok (.new 7, 3) := by decide +kernel
theorem d_method_2_code_41 : decode method_2_code 41 = .ok (.dup, 1) := by decide +kernel
theorem d_method_2_code_42 : decode method_2_code 42 = .ok (.iconst 0, 1) := by decide +kernel
theorem d_method_2_code_43 : decode method_2_code 43 = .ok (.newarray .char, 2) := by decide +kernel
theorem pd_oaCcV : parseMethodDescriptor "([C)V" = some ⟨[(.array .char)], none⟩ := by decide +kernel
theorem d_method_2_code_45 : decode method_2_code 45 = .ok (.invokespecial 9, 3) := by decide +kernel
theorem d_method_2_code_48 : decode method_2_code 48 = .ok (.areturn, 1) := by decide +kernel
theorem d_method_2_code_49 : decode method_2_code 49 = .ok (.iload_n 1, 1) := by decide +kernel
theorem d_method_2_code_50 : decode method_2_code 50 = .ok (.iconst 1, 1) := by decide +kernel
theorem d_method_2_code_51 : decode method_2_code 51 = .ok (.if_icmp .ne 8, 3) := by decide +kernel
theorem d_method_2_code_54 : decode method_2_code 54 = .ok (.iload_n 2, 1) := by decide +kernel
theorem pd_oCcLjavaslangsStringe : parseMethodDescriptor "(C)Ljava/lang/String;" = some ⟨[.char], some (.object "java/lang/String")⟩ := by decide +kernel
theorem d_method_2_code_55 : decode method_2_code 55 = .ok (.invokestatic 12, 3) := by decide +kernel
theorem d_method_2_code_58 : decode method_2_code 58 = .ok (.areturn, 1) := by decide +kernel
theorem d_method_2_code_59 : decode method_2_code 59 = .ok (.iload_n 1, 1) := by decide +kernel
theorem d_method_2_code_60 : decode method_2_code 60 = .ok (.iconst 2, 1) := by decide +kernel
theorem d_method_2_code_61 : decode method_2_code 61 = .ok (.if_icmp .ne 22, 3) := by decide +kernel
theorem d_method_2_code_64 : decode method_2_code 64 = .ok (.new 7, 3) := by decide +kernel
theorem d_method_2_code_67 : decode method_2_code 67 = .ok (.dup, 1) := by decide +kernel
theorem d_method_2_code_68 : decode method_2_code 68 = .ok (.iconst 2, 1) := by decide +kernel
theorem d_method_2_code_69 : decode method_2_code 69 = .ok (.newarray .char, 2) := by decide +kernel
theorem d_method_2_code_71 : decode method_2_code 71 = .ok (.dup, 1) := by decide +kernel
theorem d_method_2_code_72 : decode method_2_code 72 = .ok (.iconst 0, 1) := by decide +kernel
theorem d_method_2_code_73 : decode method_2_code 73 = .ok (.iload_n 2, 1) := by decide +kernel
theorem d_method_2_code_74 : decode method_2_code 74 = .ok (.castore, 1) := by decide +kernel
theorem d_method_2_code_75 : decode method_2_code 75 = .ok (.dup, 1) := by decide +kernel
theorem d_method_2_code_76 : decode method_2_code 76 = .ok (.iconst 1, 1) := by decide +kernel
theorem d_method_2_code_77 : decode method_2_code 77 = .ok (.iload_n 3, 1) := by decide +kernel
theorem d_method_2_code_78 : decode method_2_code 78 = .ok (.castore, 1) := by decide +kernel
theorem d_method_2_code_79 : decode method_2_code 79 = .ok (.invokespecial 9, 3) := by decide +kernel
theorem d_method_2_code_82 : decode method_2_code 82 = .ok (.areturn, 1) := by decide +kernel
theorem d_method_2_code_83 : decode method_2_code 83 = .ok (.new 7, 3) := by decide +kernel
theorem d_method_2_code_86 : decode method_2_code 86 = .ok (.dup, 1) := by decide +kernel
theorem d_method_2_code_87 : decode method_2_code 87 = .ok (.iconst 3, 1) := by decide +kernel
theorem d_method_2_code_88 : decode method_2_code 88 = .ok (.newarray .char, 2) := by decide +kernel
theorem d_method_2_code_90 : decode method_2_code 90 = .ok (.dup, 1) := by decide +kernel
theorem d_method_2_code_91 : decode method_2_code 91 = .ok (.iconst 0, 1) := by decide +kernel
theorem d_method_2_code_92 : decode method_2_code 92 = .ok (.iload_n 2, 1) := by decide +kernel
theorem d_method_2_code_93 : decode method_2_code 93 = .ok (.castore, 1) := by decide +kernel
theorem d_method_2_code_94 : decode method_2_code 94 = .ok (.dup, 1) := by decide +kernel
theorem d_method_2_code_95 : decode method_2_code 95 = .ok (.iconst 1, 1) := by decide +kernel
theorem d_method_2_code_96 : decode method_2_code 96 = .ok (.iload_n 3, 1) := by decide +kernel
theorem d_method_2_code_97 : decode method_2_code 97 = .ok (.castore, 1) := by decide +kernel
theorem d_method_2_code_98 : decode method_2_code 98 = .ok (.dup, 1) := by decide +kernel
theorem d_method_2_code_99 : decode method_2_code 99 = .ok (.iconst 2, 1) := by decide +kernel
theorem d_method_2_code_100 : decode method_2_code 100 = .ok (.iload 4, 2) := by decide +kernel
theorem d_method_2_code_102 : decode method_2_code 102 = .ok (.castore, 1) := by decide +kernel
theorem d_method_2_code_103 : decode method_2_code 103 = .ok (.invokespecial 9, 3) := by decide +kernel
theorem d_method_2_code_106 : decode method_2_code 106 = .ok (.areturn, 1) := by decide +kernel
theorem pn_com_example_libroute_libroute_pattern_ParameterKindSpanPinLaw : plainName "com/example/libroute/libroute/pattern/ParameterKindSpanPinLaw" = true := by first | (simp [plainName, overriddenIn]; done) | decide +kernel
theorem ef_rmSg (m : MethodId) (x0 : Int32) : entryFrame m #[(.int x0)] 5 = mkF m 0 #[.val (.int x0), .unset, .unset, .unset, .unset] [] := by first | (simp [entryFrame, mkF, argsToLocals, Value.category]; done) | rfl
set_option maxRecDepth 65536 in
set_option maxHeartbeats 40000000 in
theorem rmSg (l : Launch) (Z : State) (a0 : Array Value) (hw : ∀ d ∈ tables_1, d.before a0 Z = true) (ws : List Jvm.Cond) (p0 : Int32) (G1 : Int32) (h0 : Heap) (n0 : Nat) (Z0 : n0 ≤ h0.size) (O2 : Sta Z Z.heap "java/lang/String" "COMPACT_STRINGS" "Z" (.int G1)) (P5 : ¬ G1 = 0) (X00 : Old Z n0 h0) :
    MetFree l (⟨"com/example/libroute/libroute/pattern/ParameterKindSpanPinLaw", "seg", "(I)Ljava/lang/String;"⟩ : MethodName) (head1 (Jvm.Cond.code (⟨"com/example/libroute/libroute/pattern/ParameterKindSpanPinLaw", "seg", "(I)Ljava/lang/String;"⟩ : MethodName) method_2_code 5 (some (.object "java/lang/String")) :: ws) ({ frames := 4, cells := 6, slots := 12, locals := 66 } : Room)) (fun aa U => aa = #[(.int p0)] ∧ Z.Warmed39 U.vm ∧ U.heap = h0 ∧ CHv Z EL U.vm h0) (fun _ _ _ _ _ => True) (fun _ U o U' => ∃ v L, o = .returned v ∧ QSg Z p0 h0 n0 v U'.heap L ∧ CHr Z EL U.vm U.heap U'.vm U'.heap ∧ ReturnedEndW U o U' L ({ frames := 4, cells := 6, slots := 12, locals := 66 } : Room).cells ({ frames := 4, cells := 6, slots := 12, locals := 66 } : Room).slots) := by
  refine MetFree.of_bodySF (plainFor_of_name pn_com_example_libroute_libroute_pattern_ParameterKindSpanPinLaw) hisR ?_
  intro p e s m args below meth c s₁ Bd hml0 hP hK
  obtain ⟨rfl, hZ, hh, hCH⟩ := hP
  have hx := Bd.exec
  have hby := Bd.bytes
  have hml : c.maxLocals = 5 := hml0
  have hown : s.vm.findClass "com/example/libroute/libroute/pattern/ParameterKindSpanPinLaw" = some m.cls := findClass_of_methodNamed Bd.named
  have hnm := (name_of_methodNamed Bd.named Bd.method).1
  have X0 : Stand p l e ({ frames := 4, cells := 6, slots := 12, locals := 66 } : Room) s m #[(.int p0)] below meth c s₁ [] 0 0 := Stand.of_body Bd
  have e0 : s₁.heap = h0 := by rw [← hh, Bd.state]; rfl
  have N0 := Fr.nil n0
  have K0 := Keep.refl h0 []
  obtain ⟨S0, hS0⟩ : ∃ z, z = s₁.setTop (entryFrame m #[(.int p0)] 5) := ⟨_, rfl⟩
  rw [← hS0]
  have c0 : Steps p.tables e below S0 (s₁.setTop (mkF m 0 #[.val (.int p0), .unset, .unset, .unset, .unset] [])) := by
    rw [hS0]; exact castTop (ef_rmSg m p0) (Steps.refl _)
  have X0 : Stand p l e ({ frames := 4, cells := 6, slots := 12, locals := 66 } : Room) (s.setVm s.vm) m #[(.int p0)] below meth c s₁ [] 0 0 := X0
  have hS0 : s.Since s.vm 0 := own_since s
  have R0 : CHr Z EL s.vm h0 s.vm h0 := CHr.refl hCH
  have hEL := own_EW hw
  have hwS := own_strw hw
  have c1 : Steps p.tables e below S0 (s₁.setTop (mkF m 13 #[.val (.int p0), .val (.int (p0 &&& (3 : Int32))), .val (.int ((((p0.toUInt32 >>> ((2 : Int32) &&& 31).toUInt32).toInt32) &&& (255 : Int32)).toUInt32.toUInt16.toUInt32.toInt32)), .unset, .unset] [])) := c0.trans (by
    show Steps p.tables e below (s₁.setTop (mkF m 0 #[.val (.int p0), .unset, .unset, .unset, .unset] [])) _
    refine XS.iloadN X0.here hx rfl (hb hby d_method_2_code_0) rfl ?_
    refine XS.iconst X0.here hx rfl (hb hby d_method_2_code_1) ?_
    refine XS.iand X0.here hx rfl (hb hby d_method_2_code_2) rfl ?_
    refine XS.istoreN X0.here hx rfl (hb hby d_method_2_code_3) rfl (l' := #[.val (.int p0), .val (.int (p0 &&& (3 : Int32))), .unset, .unset, .unset]) rfl ?_
    show Steps p.tables e below (s₁.setTop (mkF m 4 #[.val (.int p0), .val (.int (p0 &&& (3 : Int32))), .unset, .unset, .unset] [])) _
    refine XS.iloadN X0.here hx rfl (hb hby d_method_2_code_4) rfl ?_
    refine XS.iconst X0.here hx rfl (hb hby d_method_2_code_5) ?_
    refine XS.iushr X0.here hx rfl (hb hby d_method_2_code_6) rfl ?_
    refine XS.sipush X0.here hx rfl (hb hby d_method_2_code_7) ?_
    show Steps p.tables e below (s₁.setTop (mkF m 10 #[.val (.int p0), .val (.int (p0 &&& (3 : Int32))), .unset, .unset, .unset] [(.int (255 : Int32)), (.int ((p0.toUInt32 >>> ((2 : Int32) &&& 31).toUInt32).toInt32))])) _
    refine XS.iand X0.here hx rfl (hb hby d_method_2_code_10) rfl ?_
    refine XS.i2c X0.here hx rfl (hb hby d_method_2_code_11) rfl ?_
    refine XS.istoreN X0.here hx rfl (hb hby d_method_2_code_12) rfl (l' := #[.val (.int p0), .val (.int (p0 &&& (3 : Int32))), .val (.int ((((p0.toUInt32 >>> ((2 : Int32) &&& 31).toUInt32).toInt32) &&& (255 : Int32)).toUInt32.toUInt16.toUInt32.toInt32)), .unset, .unset]) rfl ?_
    exact Steps.refl _)
  obtain ⟨ca, hca, c2⟩ : ∃ z : Int32, z = ((((p0.toUInt32 >>> ((2 : Int32) &&& 31).toUInt32).toInt32) &&& (255 : Int32)).toUInt32.toUInt16.toUInt32.toInt32) ∧ Steps p.tables e below S0 (s₁.setTop (mkF m 13 #[.val (.int p0), .val (.int (p0 &&& (3 : Int32))), .val (.int z), .unset, .unset] [])) := ⟨_, rfl, c1⟩
  have h8ca : C8 ca := hca ▸ own_c8m ((p0.toUInt32 >>> ((2 : Int32) &&& 31).toUInt32).toInt32)
  have c3 : Steps p.tables e below S0 (s₁.setTop (mkF m 23 #[.val (.int p0), .val (.int (p0 &&& (3 : Int32))), .val (.int ca), .val (.int ((((p0.toUInt32 >>> ((10 : Int32) &&& 31).toUInt32).toInt32) &&& (255 : Int32)).toUInt32.toUInt16.toUInt32.toInt32)), .unset] [])) := c2.trans (by
    show Steps p.tables e below (s₁.setTop (mkF m 13 #[.val (.int p0), .val (.int (p0 &&& (3 : Int32))), .val (.int ca), .unset, .unset] [])) _
    refine XS.iloadN X0.here hx rfl (hb hby d_method_2_code_13) rfl ?_
    refine XS.bipush X0.here hx rfl (hb hby d_method_2_code_14) ?_
    refine XS.iushr X0.here hx rfl (hb hby d_method_2_code_16) rfl ?_
    refine XS.sipush X0.here hx rfl (hb hby d_method_2_code_17) ?_
    show Steps p.tables e below (s₁.setTop (mkF m 20 #[.val (.int p0), .val (.int (p0 &&& (3 : Int32))), .val (.int ca), .unset, .unset] [(.int (255 : Int32)), (.int ((p0.toUInt32 >>> ((10 : Int32) &&& 31).toUInt32).toInt32))])) _
    refine XS.iand X0.here hx rfl (hb hby d_method_2_code_20) rfl ?_
    refine XS.i2c X0.here hx rfl (hb hby d_method_2_code_21) rfl ?_
    refine XS.istoreN X0.here hx rfl (hb hby d_method_2_code_22) rfl (l' := #[.val (.int p0), .val (.int (p0 &&& (3 : Int32))), .val (.int ca), .val (.int ((((p0.toUInt32 >>> ((10 : Int32) &&& 31).toUInt32).toInt32) &&& (255 : Int32)).toUInt32.toUInt16.toUInt32.toInt32)), .unset]) rfl ?_
    exact Steps.refl _)
  obtain ⟨cb, hcb, c4⟩ : ∃ z : Int32, z = ((((p0.toUInt32 >>> ((10 : Int32) &&& 31).toUInt32).toInt32) &&& (255 : Int32)).toUInt32.toUInt16.toUInt32.toInt32) ∧ Steps p.tables e below S0 (s₁.setTop (mkF m 23 #[.val (.int p0), .val (.int (p0 &&& (3 : Int32))), .val (.int ca), .val (.int z), .unset] [])) := ⟨_, rfl, c3⟩
  have h8cb : C8 cb := hcb ▸ own_c8m ((p0.toUInt32 >>> ((10 : Int32) &&& 31).toUInt32).toInt32)
  have c5 : Steps p.tables e below S0 (s₁.setTop (mkF m 34 #[.val (.int p0), .val (.int (p0 &&& (3 : Int32))), .val (.int ca), .val (.int cb), .val (.int ((((p0.toUInt32 >>> ((18 : Int32) &&& 31).toUInt32).toInt32) &&& (255 : Int32)).toUInt32.toUInt16.toUInt32.toInt32))] [])) := c4.trans (by
    show Steps p.tables e below (s₁.setTop (mkF m 23 #[.val (.int p0), .val (.int (p0 &&& (3 : Int32))), .val (.int ca), .val (.int cb), .unset] [])) _
    refine XS.iloadN X0.here hx rfl (hb hby d_method_2_code_23) rfl ?_
    refine XS.bipush X0.here hx rfl (hb hby d_method_2_code_24) ?_
    refine XS.iushr X0.here hx rfl (hb hby d_method_2_code_26) rfl ?_
    refine XS.sipush X0.here hx rfl (hb hby d_method_2_code_27) ?_
    show Steps p.tables e below (s₁.setTop (mkF m 30 #[.val (.int p0), .val (.int (p0 &&& (3 : Int32))), .val (.int ca), .val (.int cb), .unset] [(.int (255 : Int32)), (.int ((p0.toUInt32 >>> ((18 : Int32) &&& 31).toUInt32).toInt32))])) _
    refine XS.iand X0.here hx rfl (hb hby d_method_2_code_30) rfl ?_
    refine XS.i2c X0.here hx rfl (hb hby d_method_2_code_31) rfl ?_
    refine XS.istore X0.here hx rfl (hb hby d_method_2_code_32) rfl (l' := #[.val (.int p0), .val (.int (p0 &&& (3 : Int32))), .val (.int ca), .val (.int cb), .val (.int ((((p0.toUInt32 >>> ((18 : Int32) &&& 31).toUInt32).toInt32) &&& (255 : Int32)).toUInt32.toUInt16.toUInt32.toInt32))]) rfl ?_
    exact Steps.refl _)
  obtain ⟨cd, hcd, c6⟩ : ∃ z : Int32, z = ((((p0.toUInt32 >>> ((18 : Int32) &&& 31).toUInt32).toInt32) &&& (255 : Int32)).toUInt32.toUInt16.toUInt32.toInt32) ∧ Steps p.tables e below S0 (s₁.setTop (mkF m 34 #[.val (.int p0), .val (.int (p0 &&& (3 : Int32))), .val (.int ca), .val (.int cb), .val (.int z)] [])) := ⟨_, rfl, c5⟩
  have h8cd : C8 cd := hcd ▸ own_c8m ((p0.toUInt32 >>> ((18 : Int32) &&& 31).toUInt32).toInt32)
  have c7 : Steps p.tables e below S0 (s₁.setTop (mkF m 35 #[.val (.int p0), .val (.int (p0 &&& (3 : Int32))), .val (.int ca), .val (.int cb), .val (.int cd)] [(.int (p0 &&& (3 : Int32)))])) := c6.trans (by
    show Steps p.tables e below (s₁.setTop (mkF m 34 #[.val (.int p0), .val (.int (p0 &&& (3 : Int32))), .val (.int ca), .val (.int cb), .val (.int cd)] [])) _
    refine XS.iloadN X0.here hx rfl (hb hby d_method_2_code_34) rfl ?_
    exact Steps.refl _)
  by_cases hq8 : (p0 &&& (3 : Int32)) = (0 : Int32)
  · have c9 : Steps p.tables e below S0 (s₁.setTop (mkF m 38 #[.val (.int p0), .val (.int (p0 &&& (3 : Int32))), .val (.int ca), .val (.int cb), .val (.int cd)] [])) := c7.trans (by
      show Steps p.tables e below (s₁.setTop (mkF m 35 #[.val (.int p0), .val (.int (p0 &&& (3 : Int32))), .val (.int ca), .val (.int cb), .val (.int cd)] [(.int (p0 &&& (3 : Int32)))])) _
      refine XS.ifNo X0.here hx rfl (hb hby d_method_2_code_35) rfl ((if0 _ _).trans (teq hq8).2) ?_
      exact Steps.refl _)
    obtain ⟨T10, h10, X10, e10, E10, A10, D10, -, st10⟩ := newO X0 hx hZ hown (hw _ (List.mem_of_getElem? (i := 8) rfl)) (hw _ (List.mem_of_getElem? (i := 9) rfl)) (hw _ (List.mem_of_getElem? (i := 10) rfl)) e0 (g := (mkF m 38 #[.val (.int p0), .val (.int (p0 &&& (3 : Int32))), .val (.int ca), .val (.int cb), .val (.int cd)] [])) rfl (hb hby d_method_2_code_38) (by decide) (by decide)
    obtain ⟨b10, g10⟩ : ∃ z, z = h0.size := ⟨_, rfl⟩
    rw [← g10] at A10 D10 st10
    have sn10 : Safe Z EL s.vm h0 b10 := Safe.new (Nat.le_of_eq g10.symm)
    have c11 : Steps p.tables e below S0 (T10.setTop (mkF m 41 #[.val (.int p0), .val (.int (p0 &&& (3 : Int32))), .val (.int ca), .val (.int cb), .val (.int cd)] [(.ref b10)])) := c9.trans (st10 _ (Steps.refl _))
    have z10 : n0 ≤ h10.size := Nat.le_trans Z0 E10.1
    have K10 := K0.ext E10
    have r10 : CHr Z EL s.vm h0 s.vm h10 := CHr.ext E10 R0.1
    have R10 := R0.trans r10
    have lt_b10 : b10 < h10.size := A10.lt
    have sf10 : Safe Z EL s.vm h10 b10 := Safe.ext E10 R0.1 sn10
    have F10_coder : Fld Z h10 b10 "java/lang/String" "coder" "B" (.int (0 : Int32)) := D10 (Or.inr (hw _ (List.mem_of_getElem? (i := 35) rfl))) (ty := .byte) (by decide)
    have F10_value : Fld Z h10 b10 "java/lang/String" "value" "[B" .null := D10 (Or.inr (hw _ (List.mem_of_getElem? (i := 37) rfl))) (ty := (.array .byte)) (by decide)
    have c12 : Steps p.tables e below S0 (T10.setTop (mkF m 43 #[.val (.int p0), .val (.int (p0 &&& (3 : Int32))), .val (.int ca), .val (.int cb), .val (.int cd)] [(.int (0 : Int32)), (.ref b10), (.ref b10)])) := c11.trans (by
      show Steps p.tables e below (T10.setTop (mkF m 41 #[.val (.int p0), .val (.int (p0 &&& (3 : Int32))), .val (.int ca), .val (.int cb), .val (.int cd)] [(.ref b10)])) _
      refine XS.dup X10.here hx rfl (hb hby d_method_2_code_41) rfl rfl ?_
      refine XS.iconst X10.here hx rfl (hb hby d_method_2_code_42) ?_
      exact Steps.refl _)
    obtain ⟨T13, h13, k13, X13, e13, E13, A13, st13⟩ := newP X10 hx hZ (hw _ (List.mem_of_getElem? (i := 11) rfl)) e10 (g := (mkF m 43 #[.val (.int p0), .val (.int (p0 &&& (3 : Int32))), .val (.int ca), .val (.int cb), .val (.int cd)] [(.int (0 : Int32)), (.ref b10), (.ref b10)])) rfl (hb hby d_method_2_code_43) rfl (by decide) (cap := 0) (by decide) (by decide) (by decide) (by decide)
    obtain ⟨b13, g13⟩ : ∃ z, z = h10.size := ⟨_, rfl⟩
    rw [← g13] at A13 st13
    have c14 : Steps p.tables e below S0 (T13.setTop (mkF m 45 #[.val (.int p0), .val (.int (p0 &&& (3 : Int32))), .val (.int ca), .val (.int cb), .val (.int cd)] [(.ref b13), (.ref b10), (.ref b10)])) := c12.trans (st13 _ (Steps.refl _))
    have z13 : n0 ≤ h13.size := Nat.le_trans z10 E13.1
    have K13 := K10.ext E13
    have r13 : CHr Z EL s.vm h10 s.vm h13 := CHr.ext E13 R10.1
    have R13 := R10.trans r13
    have V13 : Arv Z h13 b13 k13 .char (0 : Int32) [] (.int (0 : Int32)) := (Arv.new A13 (by decide)).pad (pad_rep [] (.int (0 : Int32)) 0)
    have lt_b13 : b13 < h13.size := V13.lt
    obtain ⟨_, _, ⟨T15, L15, kk15, nn15⟩, -, Xx15, hSx15, hgx15, ⟨Lc15, hQ15, l15, y15, z15, r15⟩, st15⟩ := X13.specialBackS hx (y := (⟨"java/lang/String", "<init>", "([C)V"⟩ : MethodName)) rfl hown (mvT hZ (hw _ (List.mem_of_getElem? (i := 12) rfl))) (mvT hZ (hw _ (List.mem_of_getElem? (i := 13) rfl))) (mvT hZ (hw _ (List.mem_of_getElem? (i := 14) rfl))) (by decide) (backOfSH (W := 1) (rmE1 l Z a0 hw [] b10 b13 _ _ h13 n0 z13 (Nat.le_trans Z0 (Nat.le_trans K0.1 (Nat.le_of_eq g10.symm))) (A10.ext E13) (F10_value.ext E13) (F10_coder.ext E13) V13) hZ (hw _ (List.mem_of_getElem? (i := 14) rfl)) (hw _ (List.mem_of_getElem? (i := 10) rfl)) (by decide) (by decide) hEL R13.1) (g := (mkF m 45 #[.val (.int p0), .val (.int (p0 &&& (3 : Int32))), .val (.int ca), .val (.int cb), .val (.int cd)] [(.ref b13), (.ref b10), (.ref b10)])) rfl (by rw [hml]; rfl) (Steps.refl _) (a := b10) (argsL := [(.ref b13)]) (rest := [(.ref b10)]) (lenOf pd_oaCcV rfl) rfl (by show 2 * 0 + _ ≤ _; exact Nat.le_of_eq rfl) (hb hby d_method_2_code_45) (fun _ _ => ⟨rfl, e13, (by decide : 2 + 4 ≤ _), (by decide : 4 + 8 ≤ _)⟩)
    dsimp only [Pt.U, Pt.locs, Pt.cells, Pt.slots] at Xx15 hSx15 hgx15 l15 y15 z15 r15 st15 hQ15
    subst l15 y15 z15
    obtain ⟨X15, hS15, hZ15, hown15⟩ := rebS hS0 (Nat.le_trans (Nat.zero_le _) (Nat.le_trans E10.1 E13.1)) Xx15 hSx15 (e13 ▸ hgx15) hZ hown
    obtain ⟨t15, kb15, rfl, Nq15, Kq15, So15⟩ := hQ15
    have c16 : Steps p.tables e below S0 (T15.setTop (mkF m 48 #[.val (.int p0), .val (.int (p0 &&& (3 : Int32))), .val (.int ca), .val (.int cb), .val (.int cd)] [(.ref b10)])) := c14.trans (st15)
    have N15 := Fr.app N0 Nq15
    have z15 : n0 ≤ T15.heap.size := Nat.le_trans z13 Kq15.1
    have K15 := K13.trans Kq15 (allS (Or.inr (Nat.le_trans K0.1 (Nat.le_of_eq g10.symm))) all0)
    have R15 := R13.trans r15
    have lt_t15 := So15.2.2.2.1.lt
    obtain ⟨fs, hr, hrun, hended, hW⟩ := X15.leaveW hS15 (Nat.le_refl _) (v := some (.ref b10)) (fun h => by rw [Bd.returns] at h; cases h)
    refine ⟨_, _, c16.trans (retOut X15 hx Bd.returns rfl (Or.inr (Or.inr (Or.inr (Or.inr ⟨rfl, rfl, rfl⟩)))) (hb hby d_method_2_code_48) hr), hrun, hended, _, _, rfl, ?_, ?_, hW.1, hW.2.1, hW.2.2.1, hW.2.2.2.mono (by decide) (by decide)⟩
    · show QSg Z p0 h0 n0 _ T15.heap _
      have So : OStr Z T15.heap b10 t15 _ ([] : List Int32) := ⟨So15.1, So15.2.1, So15.2.2.1, So15.2.2.2.1, So15.2.2.2.2.1, So15.2.2.2.2.2⟩
      exact ⟨_, _, _, _, rfl, N15, K15, (Nat.le_trans K0.1 (Nat.le_of_eq g10.symm)), So, ⟨fun _ => hq8, fun _ => rfl⟩⟩
    · show CHr Z EL s.vm s.heap T15.vm T15.heap
      rw [hh]; exact R15.trans (CHv.at X15 hZ15 hEL R15.1)
  · have c17 : Steps p.tables e below S0 (s₁.setTop (mkF m 51 #[.val (.int p0), .val (.int (p0 &&& (3 : Int32))), .val (.int ca), .val (.int cb), .val (.int cd)] [(.int (1 : Int32)), (.int (p0 &&& (3 : Int32)))])) := c7.trans (by
      show Steps p.tables e below (s₁.setTop (mkF m 35 #[.val (.int p0), .val (.int (p0 &&& (3 : Int32))), .val (.int ca), .val (.int cb), .val (.int cd)] [(.int (p0 &&& (3 : Int32)))])) _
      refine XS.ifYes X0.here hx rfl (pc0 := 35) (pc' := 49) rfl (hb hby d_method_2_code_35) rfl ((if0 _ _).trans (feq hq8).2) (by decide) (by decide) ?_
      refine XS.iloadN X0.here hx rfl (hb hby d_method_2_code_49) rfl ?_
      refine XS.iconst X0.here hx rfl (hb hby d_method_2_code_50) ?_
      exact Steps.refl _)
    by_cases hq18 : (p0 &&& (3 : Int32)) = (1 : Int32)
    · have c19 : Steps p.tables e below S0 (s₁.setTop (mkF m 55 #[.val (.int p0), .val (.int (p0 &&& (3 : Int32))), .val (.int ca), .val (.int cb), .val (.int cd)] [(.int ca)])) := c17.trans (by
        show Steps p.tables e below (s₁.setTop (mkF m 51 #[.val (.int p0), .val (.int (p0 &&& (3 : Int32))), .val (.int ca), .val (.int cb), .val (.int cd)] [(.int (1 : Int32)), (.int (p0 &&& (3 : Int32)))])) _
        refine XS.icmpNo X0.here hx rfl (hb hby d_method_2_code_51) rfl (teq hq18).2 ?_
        refine XS.iloadN X0.here hx rfl (hb hby d_method_2_code_54) rfl ?_
        exact Steps.refl _)
      obtain ⟨_, _, ⟨T20, L20, kk20, nn20⟩, -, X20, ⟨Lc20, hQ20, l20, y20, z20⟩, st20⟩ := Jvm.LawKit.callS X0 hx (y := (⟨"java/lang/String", "valueOf", "(C)Ljava/lang/String;"⟩ : MethodName)) hown (mvT hZ (hw _ (List.mem_of_getElem? (i := 38) rfl))) (mvT hZ (hw _ (List.mem_of_getElem? (i := 39) rfl))) (mvT hZ (hw _ (List.mem_of_getElem? (i := 10) rfl))) (mvT hZ (hw _ (List.mem_of_getElem? (i := 40) rfl))) (by decide) (backOf (W := 0) (rmValC l Z a0 hw [] ca G1 h0 n0 Z0 h8ca O2 P5 X00) hZ (hw _ (List.mem_of_getElem? (i := 40) rfl)) (hw _ (List.mem_of_getElem? (i := 10) rfl)) (by decide) (by decide)) (g := (mkF m 55 #[.val (.int p0), .val (.int (p0 &&& (3 : Int32))), .val (.int ca), .val (.int cb), .val (.int cd)] [(.int ca)])) rfl (by rw [hml]; rfl) (argsL := [(.int ca)]) (rest := []) (lenOf pd_oCcLjavaslangsStringe rfl) rfl (by show 2 * 0 + _ ≤ _; exact Nat.le_of_eq rfl) (hb hby d_method_2_code_55) (fun _ _ => ⟨rfl, e0, (by decide : 0 + 2 ≤ _), (by decide : 0 + 5 ≤ _)⟩)
      dsimp only [Pt.U, Pt.locs, Pt.cells, Pt.slots] at X20 l20 y20 z20 st20 hQ20
      subst l20 y20 z20
      obtain ⟨x20, t20, kb20, rfl, Nq20, Kq20, gx20, gt20, So20⟩ := hQ20
      have c21 : Steps p.tables e below S0 (T20.setTop (mkF m 58 #[.val (.int p0), .val (.int (p0 &&& (3 : Int32))), .val (.int ca), .val (.int cb), .val (.int cd)] [(.ref x20)])) := c19.trans (st20 _ (Steps.refl _))
      have N20 := Fr.app N0 Nq20
      have z20 : n0 ≤ T20.heap.size := Nat.le_trans Z0 Kq20.1
      have K20 := K0.trans Kq20 all0
      have r20 : CHr Z EL s.vm h0 s.vm T20.heap := CHr.keep Kq20 sf0 R0.1
      have R20 := R0.trans r20
      have lt_x20 := So20.1.lt
      have lt_t20 := So20.2.2.2.1.lt
      obtain ⟨fs, hr, hrun, hended, hW⟩ := X20.leaveW hS0 (Nat.le_trans (Nat.zero_le _) Kq20.1) (v := some (.ref x20)) (fun h => by rw [Bd.returns] at h; cases h)
      refine ⟨_, _, c21.trans (retOut X20 hx Bd.returns rfl (Or.inr (Or.inr (Or.inr (Or.inr ⟨rfl, rfl, rfl⟩)))) (hb hby d_method_2_code_58) hr), hrun, hended, _, _, rfl, ?_, ?_, hW.1, hW.2.1, hW.2.2.1, hW.2.2.2.mono (by decide) (by decide)⟩
      · show QSg Z p0 h0 n0 _ T20.heap _
        have So : OStr Z T20.heap x20 t20 _ ([ca] : List Int32) := ⟨So20.1, So20.2.1, So20.2.2.1, So20.2.2.2.1, So20.2.2.2.2.1, So20.2.2.2.2.2⟩
        exact ⟨_, _, _, _, rfl, N20, K20, (Nat.le_trans K0.1 gx20), So, ⟨(fun q => nomatch q), fun q => absurd q hq8⟩⟩
      · show CHr Z EL s.vm s.heap T20.vm T20.heap
        rw [hh]; exact R20.trans (CHv.at X20 hZ hEL R20.1)
    · have c22 : Steps p.tables e below S0 (s₁.setTop (mkF m 61 #[.val (.int p0), .val (.int (p0 &&& (3 : Int32))), .val (.int ca), .val (.int cb), .val (.int cd)] [(.int (2 : Int32)), (.int (p0 &&& (3 : Int32)))])) := c17.trans (by
        show Steps p.tables e below (s₁.setTop (mkF m 51 #[.val (.int p0), .val (.int (p0 &&& (3 : Int32))), .val (.int ca), .val (.int cb), .val (.int cd)] [(.int (1 : Int32)), (.int (p0 &&& (3 : Int32)))])) _
        refine XS.icmpYes X0.here hx rfl (pc0 := 51) (pc' := 59) rfl (hb hby d_method_2_code_51) rfl (feq hq18).2 (by decide) (by decide) ?_
        refine XS.iloadN X0.here hx rfl (hb hby d_method_2_code_59) rfl ?_
        refine XS.iconst X0.here hx rfl (hb hby d_method_2_code_60) ?_
        exact Steps.refl _)
      by_cases hq23 : (p0 &&& (3 : Int32)) = (2 : Int32)
      · have c24 : Steps p.tables e below S0 (s₁.setTop (mkF m 64 #[.val (.int p0), .val (.int (p0 &&& (3 : Int32))), .val (.int ca), .val (.int cb), .val (.int cd)] [])) := c22.trans (by
          show Steps p.tables e below (s₁.setTop (mkF m 61 #[.val (.int p0), .val (.int (p0 &&& (3 : Int32))), .val (.int ca), .val (.int cb), .val (.int cd)] [(.int (2 : Int32)), (.int (p0 &&& (3 : Int32)))])) _
          refine XS.icmpNo X0.here hx rfl (hb hby d_method_2_code_61) rfl (teq hq23).2 ?_
          exact Steps.refl _)
        obtain ⟨T25, h25, X25, e25, E25, A25, D25, -, st25⟩ := newO X0 hx hZ hown (hw _ (List.mem_of_getElem? (i := 8) rfl)) (hw _ (List.mem_of_getElem? (i := 9) rfl)) (hw _ (List.mem_of_getElem? (i := 10) rfl)) e0 (g := (mkF m 64 #[.val (.int p0), .val (.int (p0 &&& (3 : Int32))), .val (.int ca), .val (.int cb), .val (.int cd)] [])) rfl (hb hby d_method_2_code_64) (by decide) (by decide)
        obtain ⟨b25, g25⟩ : ∃ z, z = h0.size := ⟨_, rfl⟩
        rw [← g25] at A25 D25 st25
        have sn25 : Safe Z EL s.vm h0 b25 := Safe.new (Nat.le_of_eq g25.symm)
        have c26 : Steps p.tables e below S0 (T25.setTop (mkF m 67 #[.val (.int p0), .val (.int (p0 &&& (3 : Int32))), .val (.int ca), .val (.int cb), .val (.int cd)] [(.ref b25)])) := c24.trans (st25 _ (Steps.refl _))
        have z25 : n0 ≤ h25.size := Nat.le_trans Z0 E25.1
        have K25 := K0.ext E25
        have r25 : CHr Z EL s.vm h0 s.vm h25 := CHr.ext E25 R0.1
        have R25 := R0.trans r25
        have lt_b25 : b25 < h25.size := A25.lt
        have sf25 : Safe Z EL s.vm h25 b25 := Safe.ext E25 R0.1 sn25
        have F25_coder : Fld Z h25 b25 "java/lang/String" "coder" "B" (.int (0 : Int32)) := D25 (Or.inr (hw _ (List.mem_of_getElem? (i := 35) rfl))) (ty := .byte) (by decide)
        have F25_value : Fld Z h25 b25 "java/lang/String" "value" "[B" .null := D25 (Or.inr (hw _ (List.mem_of_getElem? (i := 37) rfl))) (ty := (.array .byte)) (by decide)
        have c27 : Steps p.tables e below S0 (T25.setTop (mkF m 69 #[.val (.int p0), .val (.int (p0 &&& (3 : Int32))), .val (.int ca), .val (.int cb), .val (.int cd)] [(.int (2 : Int32)), (.ref b25), (.ref b25)])) := c26.trans (by
          show Steps p.tables e below (T25.setTop (mkF m 67 #[.val (.int p0), .val (.int (p0 &&& (3 : Int32))), .val (.int ca), .val (.int cb), .val (.int cd)] [(.ref b25)])) _
          refine XS.dup X25.here hx rfl (hb hby d_method_2_code_67) rfl rfl ?_
          refine XS.iconst X25.here hx rfl (hb hby d_method_2_code_68) ?_
          exact Steps.refl _)
        obtain ⟨T28, h28, k28, X28, e28, E28, A28, st28⟩ := newP X25 hx hZ (hw _ (List.mem_of_getElem? (i := 11) rfl)) e25 (g := (mkF m 69 #[.val (.int p0), .val (.int (p0 &&& (3 : Int32))), .val (.int ca), .val (.int cb), .val (.int cd)] [(.int (2 : Int32)), (.ref b25), (.ref b25)])) rfl (hb hby d_method_2_code_69) rfl (by decide) (cap := 2) (by decide) (by decide) (by decide) (by decide)
        obtain ⟨b28, g28⟩ : ∃ z, z = h25.size := ⟨_, rfl⟩
        rw [← g28] at A28 st28
        have c29 : Steps p.tables e below S0 (T28.setTop (mkF m 71 #[.val (.int p0), .val (.int (p0 &&& (3 : Int32))), .val (.int ca), .val (.int cb), .val (.int cd)] [(.ref b28), (.ref b25), (.ref b25)])) := c27.trans (st28 _ (Steps.refl _))
        have z28 : n0 ≤ h28.size := Nat.le_trans z25 E28.1
        have K28 := K25.ext E28
        have r28 : CHr Z EL s.vm h25 s.vm h28 := CHr.ext E28 R25.1
        have R28 := R25.trans r28
        have V28 : Arv Z h28 b28 k28 .char (2 : Int32) [(.int (0 : Int32)), (.int (0 : Int32))] (.int (0 : Int32)) := (Arv.new A28 (by decide)).pad (pad_rep [] (.int (0 : Int32)) 2)
        have lt_b28 : b28 < h28.size := V28.lt
        have c30 : Steps p.tables e below S0 (T28.setTop (mkF m 74 #[.val (.int p0), .val (.int (p0 &&& (3 : Int32))), .val (.int ca), .val (.int cb), .val (.int cd)] [(.int ca), (.int (0 : Int32)), (.ref b28), (.ref b28), (.ref b25), (.ref b25)])) := c29.trans (by
          show Steps p.tables e below (T28.setTop (mkF m 71 #[.val (.int p0), .val (.int (p0 &&& (3 : Int32))), .val (.int ca), .val (.int cb), .val (.int cd)] [(.ref b28), (.ref b25), (.ref b25)])) _
          refine XS.dup X28.here hx rfl (hb hby d_method_2_code_71) rfl rfl ?_
          refine XS.iconst X28.here hx rfl (hb hby d_method_2_code_72) ?_
          refine XS.iloadN X28.here hx rfl (hb hby d_method_2_code_73) rfl ?_
          exact Steps.refl _)
        obtain ⟨cl31, Ar31, q31, S31, Nn31, Ha31, G31⟩ := id V28
        obtain ⟨T31, h31, X31, e31, W31, st31⟩ := stC X28 hx hZ e28 Ar31 (j := (0 : Int32)) (inb_of S31 ⟨by decide, by decide⟩) (g := (mkF m 74 #[.val (.int p0), .val (.int (p0 &&& (3 : Int32))), .val (.int ca), .val (.int cb), .val (.int cd)] [(.int ca), (.int (0 : Int32)), (.ref b28), (.ref b28), (.ref b25), (.ref b25)])) rfl rfl (hb hby d_method_2_code_74)
        have V31 : Arv Z h31 b28 k28 .char (2 : Int32) [(.int (nar .char ca)), (.int (0 : Int32))] (.int (0 : Int32)) := Arv.set Ar31 q31 S31 Nn31 Ha31 G31 (fits_nar_char _) W31 0 rfl (Nat.le_of_ble_eq_true rfl)
        have c32 : Steps p.tables e below S0 (T31.setTop (mkF m 75 #[.val (.int p0), .val (.int (p0 &&& (3 : Int32))), .val (.int ca), .val (.int cb), .val (.int cd)] [(.ref b28), (.ref b25), (.ref b25)])) := c30.trans (st31 _ (Steps.refl _))
        have N31 := Fr.snoc X31 N0 (Nat.le_trans Z0 (Nat.le_trans K25.1 (Nat.le_of_eq g28.symm)))
        have z31 : n0 ≤ h31.size := Nat.le_trans z28 (Keep.of_wr W31).1
        have K31 := K28.wr W31 (Or.inr (Nat.le_trans K25.1 (Nat.le_of_eq g28.symm)))
        have r31 : CHr Z EL s.vm h28 s.vm h31 := CHr.wr W31 (Safe.arv hZ.alike V28 (by decide)) R28.1
        have R31 := R28.trans r31
        have c33 : Steps p.tables e below S0 (T31.setTop (mkF m 78 #[.val (.int p0), .val (.int (p0 &&& (3 : Int32))), .val (.int ca), .val (.int cb), .val (.int cd)] [(.int cb), (.int (1 : Int32)), (.ref b28), (.ref b28), (.ref b25), (.ref b25)])) := c32.trans (by
          show Steps p.tables e below (T31.setTop (mkF m 75 #[.val (.int p0), .val (.int (p0 &&& (3 : Int32))), .val (.int ca), .val (.int cb), .val (.int cd)] [(.ref b28), (.ref b25), (.ref b25)])) _
          refine XS.dup X31.here hx rfl (hb hby d_method_2_code_75) rfl rfl ?_
          refine XS.iconst X31.here hx rfl (hb hby d_method_2_code_76) ?_
          refine XS.iloadN X31.here hx rfl (hb hby d_method_2_code_77) rfl ?_
          exact Steps.refl _)
        obtain ⟨cl34, Ar34, q34, S34, Nn34, Ha34, G34⟩ := id V31
        obtain ⟨T34, h34, X34, e34, W34, st34⟩ := stC X31 hx hZ e31 Ar34 (j := (1 : Int32)) (inb_of S34 ⟨by decide, by decide⟩) (g := (mkF m 78 #[.val (.int p0), .val (.int (p0 &&& (3 : Int32))), .val (.int ca), .val (.int cb), .val (.int cd)] [(.int cb), (.int (1 : Int32)), (.ref b28), (.ref b28), (.ref b25), (.ref b25)])) rfl rfl (hb hby d_method_2_code_78)
        have V34 : Arv Z h34 b28 k28 .char (2 : Int32) [(.int (nar .char ca)), (.int (nar .char cb))] (.int (0 : Int32)) := Arv.set Ar34 q34 S34 Nn34 Ha34 G34 (fits_nar_char _) W34 1 rfl (Nat.le_of_ble_eq_true rfl)
        have c35 : Steps p.tables e below S0 (T34.setTop (mkF m 79 #[.val (.int p0), .val (.int (p0 &&& (3 : Int32))), .val (.int ca), .val (.int cb), .val (.int cd)] [(.ref b28), (.ref b25), (.ref b25)])) := c33.trans (st34 _ (Steps.refl _))
        have N34 := Fr.snoc X34 N31 (Nat.le_trans Z0 (Nat.le_trans K25.1 (Nat.le_of_eq g28.symm)))
        have z34 : n0 ≤ h34.size := Nat.le_trans z31 (Keep.of_wr W34).1
        have K34 := K31.wr W34 (Or.inr (Nat.le_trans K25.1 (Nat.le_of_eq g28.symm)))
        have r34 : CHr Z EL s.vm h31 s.vm h34 := CHr.wr W34 (Safe.arv hZ.alike V31 (by decide)) R31.1
        have R34 := R31.trans r34
        have hp36 : ∀ c ∈ ([(nar .char ca), (nar .char cb)] : List Int32), ¬ c < 0 ∧ ¬ (255 : Int32) < c := (own_alS (own_c8n h8ca) (own_alS (own_c8n h8cb) own_al0))
        have hws36 : ∀ d ∈ StrChars.Road.words, d.before a0 Z = true := fun d hd => hw d (own_in_words d hd)
        obtain ⟨_, _, ⟨T37, L37, kk37, nn37⟩, -, X37, ⟨Lc37, hQ37, l37, y37, z37⟩, st37⟩ := X34.specialBack hx (y := (⟨"java/lang/String", "<init>", "([C)V"⟩ : MethodName)) rfl hown (mvT hZ (hw _ (List.mem_of_getElem? (i := 12) rfl))) (mvT hZ (hw _ (List.mem_of_getElem? (i := 13) rfl))) (mvT hZ (hw _ (List.mem_of_getElem? (i := 14) rfl))) (by decide) (StrChars.Road.backV (W := 1) hZ hws36 (kI := 4) (hw _ (List.mem_of_getElem? (i := 9) rfl)) (cs := ([(nar .char ca), (nar .char cb)] : List Int32)) (bs := (([(nar .char ca), (nar .char cb)] : List Int32)).map (fun c => c.toInt8.toInt32)) (n := 2) (Nat.le_trans Z0 (Nat.le_trans K0.1 (Nat.le_of_eq g25.symm))) z34 (((A25.ext E28).wr W31).wr W34) (((F25_value.ext E28).other W31 (Or.inl (Nat.ne_of_lt (Nat.lt_of_lt_of_le lt_b25 (Nat.le_of_eq g28.symm))))).other W34 (Or.inl (Nat.ne_of_lt (Nat.lt_of_lt_of_le lt_b25 (Nat.le_of_eq g28.symm))))) (((F25_coder.ext E28).other W31 (Or.inl (Nat.ne_of_lt (Nat.lt_of_lt_of_le lt_b25 (Nat.le_of_eq g28.symm))))).other W34 (Or.inl (Nat.ne_of_lt (Nat.lt_of_lt_of_le lt_b25 (Nat.le_of_eq g28.symm))))) V34 (O2.ext ((((X00.ext E25).ext E28).wr W31 (Nat.le_trans Z0 (Nat.le_trans K25.1 (Nat.le_of_eq g28.symm)))).wr W34 (Nat.le_trans Z0 (Nat.le_trans K25.1 (Nat.le_of_eq g28.symm)))).2) P5 rfl rfl (by decide) (by decide) hp36 rfl (by decide) (by decide)) (g := (mkF m 79 #[.val (.int p0), .val (.int (p0 &&& (3 : Int32))), .val (.int ca), .val (.int cb), .val (.int cd)] [(.ref b28), (.ref b25), (.ref b25)])) rfl (by rw [hml]; rfl) (Steps.refl _) (a := b25) (argsL := [(.ref b28)]) (rest := [(.ref b25)]) (lenOf pd_oaCcV rfl) rfl (by show 2 * 0 + _ ≤ _; exact Nat.le_of_eq rfl) (hb hby d_method_2_code_79) (fun _ _ => ⟨rfl, e34, (by decide : 2 + 1 ≤ _), (by decide : 6 + 2 ≤ _)⟩)
        dsimp only [Pt.U, Pt.locs, Pt.cells, Pt.slots] at X37 l37 y37 z37 st37 hQ37
        subst l37 y37 z37
        obtain ⟨rfl, Nq37, Kq37, Ex37, Fc37, t37, kb37, ge37, gh37, ne37, Fv37, Va37⟩ := hQ37
        have c38 : Steps p.tables e below S0 (T37.setTop (mkF m 82 #[.val (.int p0), .val (.int (p0 &&& (3 : Int32))), .val (.int ca), .val (.int cb), .val (.int cd)] [(.ref b25)])) := c35.trans (st37)
        have N37 := Fr.app N34 Nq37
        have z37 : n0 ≤ T37.heap.size := Nat.le_trans z34 Kq37.1
        have K37 := K34.trans Kq37 (allS (Or.inr (Nat.le_trans K0.1 (Nat.le_of_eq g25.symm))) all0)
        have r37 : CHr Z EL s.vm h34 s.vm T37.heap := CHr.keep Kq37 (sfS (r34.safe (Nat.lt_of_lt_of_le lt_b25 (Nat.le_trans E28.1 (Keep.of_wr W31).1)) (r31.safe (Nat.lt_of_lt_of_le lt_b25 E28.1) (r28.safe lt_b25 sf25))) sf0) R34.1
        have R37 := R34.trans r37
        have lt_t37 : t37 < T37.heap.size := Va37.lt
        have hcd37 : StrChars.Road.CodA ([(nar .char ca), (nar .char cb)] : List Int32) 0 (2 : Int32) (((([(nar .char ca), (nar .char cb)] : List Int32)).map (fun c => c.toInt8.toInt32)).map Value.int) := StrChars.Road.codOf (n := 2) rfl (fun c hc => (hp36 c hc).2)
        obtain ⟨fs, hr, hrun, hended, hW⟩ := X37.leaveW hS0 (Nat.le_trans (Nat.zero_le _) (Nat.le_trans (Nat.le_trans (Nat.le_trans (Nat.le_trans E25.1 E28.1) (Keep.of_wr W31).1) (Keep.of_wr W34).1) Kq37.1)) (v := some (.ref b25)) (fun h => by rw [Bd.returns] at h; cases h)
        refine ⟨_, _, c38.trans (retOut X37 hx Bd.returns rfl (Or.inr (Or.inr (Or.inr (Or.inr ⟨rfl, rfl, rfl⟩)))) (hb hby d_method_2_code_82) hr), hrun, hended, _, _, rfl, ?_, ?_, hW.1, hW.2.1, hW.2.2.1, hW.2.2.2.mono (by decide) (by decide)⟩
        · show QSg Z p0 h0 n0 _ T37.heap _
          have So : OStr Z T37.heap b25 t37 _ ([(nar .char ca), (nar .char cb)] : List Int32) := ⟨Ex37, Fv37, Fc37, Va37, hp36, Nat.le_of_ble_eq_true rfl⟩
          exact ⟨_, _, _, _, rfl, N37, K37, (Nat.le_trans K0.1 (Nat.le_of_eq g25.symm)), So, ⟨(fun q => nomatch q), fun q => absurd q hq8⟩⟩
        · show CHr Z EL s.vm s.heap T37.vm T37.heap
          rw [hh]; exact R37.trans (CHv.at X37 hZ hEL R37.1)
      · have c39 : Steps p.tables e below S0 (s₁.setTop (mkF m 83 #[.val (.int p0), .val (.int (p0 &&& (3 : Int32))), .val (.int ca), .val (.int cb), .val (.int cd)] [])) := c22.trans (by
          show Steps p.tables e below (s₁.setTop (mkF m 61 #[.val (.int p0), .val (.int (p0 &&& (3 : Int32))), .val (.int ca), .val (.int cb), .val (.int cd)] [(.int (2 : Int32)), (.int (p0 &&& (3 : Int32)))])) _
          refine XS.icmpYes X0.here hx rfl (pc0 := 61) (pc' := 83) rfl (hb hby d_method_2_code_61) rfl (feq hq23).2 (by decide) (by decide) ?_
          exact Steps.refl _)
        obtain ⟨T40, h40, X40, e40, E40, A40, D40, -, st40⟩ := newO X0 hx hZ hown (hw _ (List.mem_of_getElem? (i := 8) rfl)) (hw _ (List.mem_of_getElem? (i := 9) rfl)) (hw _ (List.mem_of_getElem? (i := 10) rfl)) e0 (g := (mkF m 83 #[.val (.int p0), .val (.int (p0 &&& (3 : Int32))), .val (.int ca), .val (.int cb), .val (.int cd)] [])) rfl (hb hby d_method_2_code_83) (by decide) (by decide)
        obtain ⟨b40, g40⟩ : ∃ z, z = h0.size := ⟨_, rfl⟩
        rw [← g40] at A40 D40 st40
        have sn40 : Safe Z EL s.vm h0 b40 := Safe.new (Nat.le_of_eq g40.symm)
        have c41 : Steps p.tables e below S0 (T40.setTop (mkF m 86 #[.val (.int p0), .val (.int (p0 &&& (3 : Int32))), .val (.int ca), .val (.int cb), .val (.int cd)] [(.ref b40)])) := c39.trans (st40 _ (Steps.refl _))
        have z40 : n0 ≤ h40.size := Nat.le_trans Z0 E40.1
        have K40 := K0.ext E40
        have r40 : CHr Z EL s.vm h0 s.vm h40 := CHr.ext E40 R0.1
        have R40 := R0.trans r40
        have lt_b40 : b40 < h40.size := A40.lt
        have sf40 : Safe Z EL s.vm h40 b40 := Safe.ext E40 R0.1 sn40
        have F40_coder : Fld Z h40 b40 "java/lang/String" "coder" "B" (.int (0 : Int32)) := D40 (Or.inr (hw _ (List.mem_of_getElem? (i := 35) rfl))) (ty := .byte) (by decide)
        have F40_value : Fld Z h40 b40 "java/lang/String" "value" "[B" .null := D40 (Or.inr (hw _ (List.mem_of_getElem? (i := 37) rfl))) (ty := (.array .byte)) (by decide)
        have c42 : Steps p.tables e below S0 (T40.setTop (mkF m 88 #[.val (.int p0), .val (.int (p0 &&& (3 : Int32))), .val (.int ca), .val (.int cb), .val (.int cd)] [(.int (3 : Int32)), (.ref b40), (.ref b40)])) := c41.trans (by
          show Steps p.tables e below (T40.setTop (mkF m 86 #[.val (.int p0), .val (.int (p0 &&& (3 : Int32))), .val (.int ca), .val (.int cb), .val (.int cd)] [(.ref b40)])) _
          refine XS.dup X40.here hx rfl (hb hby d_method_2_code_86) rfl rfl ?_
          refine XS.iconst X40.here hx rfl (hb hby d_method_2_code_87) ?_
          exact Steps.refl _)
        obtain ⟨T43, h43, k43, X43, e43, E43, A43, st43⟩ := newP X40 hx hZ (hw _ (List.mem_of_getElem? (i := 11) rfl)) e40 (g := (mkF m 88 #[.val (.int p0), .val (.int (p0 &&& (3 : Int32))), .val (.int ca), .val (.int cb), .val (.int cd)] [(.int (3 : Int32)), (.ref b40), (.ref b40)])) rfl (hb hby d_method_2_code_88) rfl (by decide) (cap := 3) (by decide) (by decide) (by decide) (by decide)
        obtain ⟨b43, g43⟩ : ∃ z, z = h40.size := ⟨_, rfl⟩
        rw [← g43] at A43 st43
        have c44 : Steps p.tables e below S0 (T43.setTop (mkF m 90 #[.val (.int p0), .val (.int (p0 &&& (3 : Int32))), .val (.int ca), .val (.int cb), .val (.int cd)] [(.ref b43), (.ref b40), (.ref b40)])) := c42.trans (st43 _ (Steps.refl _))
        have z43 : n0 ≤ h43.size := Nat.le_trans z40 E43.1
        have K43 := K40.ext E43
        have r43 : CHr Z EL s.vm h40 s.vm h43 := CHr.ext E43 R40.1
        have R43 := R40.trans r43
        have V43 : Arv Z h43 b43 k43 .char (3 : Int32) [(.int (0 : Int32)), (.int (0 : Int32)), (.int (0 : Int32))] (.int (0 : Int32)) := (Arv.new A43 (by decide)).pad (pad_rep [] (.int (0 : Int32)) 3)
        have lt_b43 : b43 < h43.size := V43.lt
        have c45 : Steps p.tables e below S0 (T43.setTop (mkF m 93 #[.val (.int p0), .val (.int (p0 &&& (3 : Int32))), .val (.int ca), .val (.int cb), .val (.int cd)] [(.int ca), (.int (0 : Int32)), (.ref b43), (.ref b43), (.ref b40), (.ref b40)])) := c44.trans (by
          show Steps p.tables e below (T43.setTop (mkF m 90 #[.val (.int p0), .val (.int (p0 &&& (3 : Int32))), .val (.int ca), .val (.int cb), .val (.int cd)] [(.ref b43), (.ref b40), (.ref b40)])) _
          refine XS.dup X43.here hx rfl (hb hby d_method_2_code_90) rfl rfl ?_
          refine XS.iconst X43.here hx rfl (hb hby d_method_2_code_91) ?_
          refine XS.iloadN X43.here hx rfl (hb hby d_method_2_code_92) rfl ?_
          exact Steps.refl _)
        obtain ⟨cl46, Ar46, q46, S46, Nn46, Ha46, G46⟩ := id V43
        obtain ⟨T46, h46, X46, e46, W46, st46⟩ := stC X43 hx hZ e43 Ar46 (j := (0 : Int32)) (inb_of S46 ⟨by decide, by decide⟩) (g := (mkF m 93 #[.val (.int p0), .val (.int (p0 &&& (3 : Int32))), .val (.int ca), .val (.int cb), .val (.int cd)] [(.int ca), (.int (0 : Int32)), (.ref b43), (.ref b43), (.ref b40), (.ref b40)])) rfl rfl (hb hby d_method_2_code_93)
        have V46 : Arv Z h46 b43 k43 .char (3 : Int32) [(.int (nar .char ca)), (.int (0 : Int32)), (.int (0 : Int32))] (.int (0 : Int32)) := Arv.set Ar46 q46 S46 Nn46 Ha46 G46 (fits_nar_char _) W46 0 rfl (Nat.le_of_ble_eq_true rfl)
        have c47 : Steps p.tables e below S0 (T46.setTop (mkF m 94 #[.val (.int p0), .val (.int (p0 &&& (3 : Int32))), .val (.int ca), .val (.int cb), .val (.int cd)] [(.ref b43), (.ref b40), (.ref b40)])) := c45.trans (st46 _ (Steps.refl _))
        have N46 := Fr.snoc X46 N0 (Nat.le_trans Z0 (Nat.le_trans K40.1 (Nat.le_of_eq g43.symm)))
        have z46 : n0 ≤ h46.size := Nat.le_trans z43 (Keep.of_wr W46).1
        have K46 := K43.wr W46 (Or.inr (Nat.le_trans K40.1 (Nat.le_of_eq g43.symm)))
        have r46 : CHr Z EL s.vm h43 s.vm h46 := CHr.wr W46 (Safe.arv hZ.alike V43 (by decide)) R43.1
        have R46 := R43.trans r46
        have c48 : Steps p.tables e below S0 (T46.setTop (mkF m 97 #[.val (.int p0), .val (.int (p0 &&& (3 : Int32))), .val (.int ca), .val (.int cb), .val (.int cd)] [(.int cb), (.int (1 : Int32)), (.ref b43), (.ref b43), (.ref b40), (.ref b40)])) := c47.trans (by
          show Steps p.tables e below (T46.setTop (mkF m 94 #[.val (.int p0), .val (.int (p0 &&& (3 : Int32))), .val (.int ca), .val (.int cb), .val (.int cd)] [(.ref b43), (.ref b40), (.ref b40)])) _
          refine XS.dup X46.here hx rfl (hb hby d_method_2_code_94) rfl rfl ?_
          refine XS.iconst X46.here hx rfl (hb hby d_method_2_code_95) ?_
          refine XS.iloadN X46.here hx rfl (hb hby d_method_2_code_96) rfl ?_
          exact Steps.refl _)
        obtain ⟨cl49, Ar49, q49, S49, Nn49, Ha49, G49⟩ := id V46
        obtain ⟨T49, h49, X49, e49, W49, st49⟩ := stC X46 hx hZ e46 Ar49 (j := (1 : Int32)) (inb_of S49 ⟨by decide, by decide⟩) (g := (mkF m 97 #[.val (.int p0), .val (.int (p0 &&& (3 : Int32))), .val (.int ca), .val (.int cb), .val (.int cd)] [(.int cb), (.int (1 : Int32)), (.ref b43), (.ref b43), (.ref b40), (.ref b40)])) rfl rfl (hb hby d_method_2_code_97)
        have V49 : Arv Z h49 b43 k43 .char (3 : Int32) [(.int (nar .char ca)), (.int (nar .char cb)), (.int (0 : Int32))] (.int (0 : Int32)) := Arv.set Ar49 q49 S49 Nn49 Ha49 G49 (fits_nar_char _) W49 1 rfl (Nat.le_of_ble_eq_true rfl)
        have c50 : Steps p.tables e below S0 (T49.setTop (mkF m 98 #[.val (.int p0), .val (.int (p0 &&& (3 : Int32))), .val (.int ca), .val (.int cb), .val (.int cd)] [(.ref b43), (.ref b40), (.ref b40)])) := c48.trans (st49 _ (Steps.refl _))
        have N49 := Fr.snoc X49 N46 (Nat.le_trans Z0 (Nat.le_trans K40.1 (Nat.le_of_eq g43.symm)))
        have z49 : n0 ≤ h49.size := Nat.le_trans z46 (Keep.of_wr W49).1
        have K49 := K46.wr W49 (Or.inr (Nat.le_trans K40.1 (Nat.le_of_eq g43.symm)))
        have r49 : CHr Z EL s.vm h46 s.vm h49 := CHr.wr W49 (Safe.arv hZ.alike V46 (by decide)) R46.1
        have R49 := R46.trans r49
        have c51 : Steps p.tables e below S0 (T49.setTop (mkF m 102 #[.val (.int p0), .val (.int (p0 &&& (3 : Int32))), .val (.int ca), .val (.int cb), .val (.int cd)] [(.int cd), (.int (2 : Int32)), (.ref b43), (.ref b43), (.ref b40), (.ref b40)])) := c50.trans (by
          show Steps p.tables e below (T49.setTop (mkF m 98 #[.val (.int p0), .val (.int (p0 &&& (3 : Int32))), .val (.int ca), .val (.int cb), .val (.int cd)] [(.ref b43), (.ref b40), (.ref b40)])) _
          refine XS.dup X49.here hx rfl (hb hby d_method_2_code_98) rfl rfl ?_
          refine XS.iconst X49.here hx rfl (hb hby d_method_2_code_99) ?_
          refine XS.iload X49.here hx rfl (hb hby d_method_2_code_100) rfl ?_
          exact Steps.refl _)
        obtain ⟨cl52, Ar52, q52, S52, Nn52, Ha52, G52⟩ := id V49
        obtain ⟨T52, h52, X52, e52, W52, st52⟩ := stC X49 hx hZ e49 Ar52 (j := (2 : Int32)) (inb_of S52 ⟨by decide, by decide⟩) (g := (mkF m 102 #[.val (.int p0), .val (.int (p0 &&& (3 : Int32))), .val (.int ca), .val (.int cb), .val (.int cd)] [(.int cd), (.int (2 : Int32)), (.ref b43), (.ref b43), (.ref b40), (.ref b40)])) rfl rfl (hb hby d_method_2_code_102)
        have V52 : Arv Z h52 b43 k43 .char (3 : Int32) [(.int (nar .char ca)), (.int (nar .char cb)), (.int (nar .char cd))] (.int (0 : Int32)) := Arv.set Ar52 q52 S52 Nn52 Ha52 G52 (fits_nar_char _) W52 2 rfl (Nat.le_of_ble_eq_true rfl)
        have c53 : Steps p.tables e below S0 (T52.setTop (mkF m 103 #[.val (.int p0), .val (.int (p0 &&& (3 : Int32))), .val (.int ca), .val (.int cb), .val (.int cd)] [(.ref b43), (.ref b40), (.ref b40)])) := c51.trans (st52 _ (Steps.refl _))
        have N52 := Fr.snoc X52 N49 (Nat.le_trans Z0 (Nat.le_trans K40.1 (Nat.le_of_eq g43.symm)))
        have z52 : n0 ≤ h52.size := Nat.le_trans z49 (Keep.of_wr W52).1
        have K52 := K49.wr W52 (Or.inr (Nat.le_trans K40.1 (Nat.le_of_eq g43.symm)))
        have r52 : CHr Z EL s.vm h49 s.vm h52 := CHr.wr W52 (Safe.arv hZ.alike V49 (by decide)) R49.1
        have R52 := R49.trans r52
        have hp54 : ∀ c ∈ ([(nar .char ca), (nar .char cb), (nar .char cd)] : List Int32), ¬ c < 0 ∧ ¬ (255 : Int32) < c := (own_alS (own_c8n h8ca) (own_alS (own_c8n h8cb) (own_alS (own_c8n h8cd) own_al0)))
        have hws54 : ∀ d ∈ StrChars.Road.words, d.before a0 Z = true := fun d hd => hw d (own_in_words d hd)
        obtain ⟨_, _, ⟨T55, L55, kk55, nn55⟩, -, X55, ⟨Lc55, hQ55, l55, y55, z55⟩, st55⟩ := X52.specialBack hx (y := (⟨"java/lang/String", "<init>", "([C)V"⟩ : MethodName)) rfl hown (mvT hZ (hw _ (List.mem_of_getElem? (i := 12) rfl))) (mvT hZ (hw _ (List.mem_of_getElem? (i := 13) rfl))) (mvT hZ (hw _ (List.mem_of_getElem? (i := 14) rfl))) (by decide) (StrChars.Road.backV (W := 1) hZ hws54 (kI := 4) (hw _ (List.mem_of_getElem? (i := 9) rfl)) (cs := ([(nar .char ca), (nar .char cb), (nar .char cd)] : List Int32)) (bs := (([(nar .char ca), (nar .char cb), (nar .char cd)] : List Int32)).map (fun c => c.toInt8.toInt32)) (n := 3) (Nat.le_trans Z0 (Nat.le_trans K0.1 (Nat.le_of_eq g40.symm))) z52 ((((A40.ext E43).wr W46).wr W49).wr W52) ((((F40_value.ext E43).other W46 (Or.inl (Nat.ne_of_lt (Nat.lt_of_lt_of_le lt_b40 (Nat.le_of_eq g43.symm))))).other W49 (Or.inl (Nat.ne_of_lt (Nat.lt_of_lt_of_le lt_b40 (Nat.le_of_eq g43.symm))))).other W52 (Or.inl (Nat.ne_of_lt (Nat.lt_of_lt_of_le lt_b40 (Nat.le_of_eq g43.symm))))) ((((F40_coder.ext E43).other W46 (Or.inl (Nat.ne_of_lt (Nat.lt_of_lt_of_le lt_b40 (Nat.le_of_eq g43.symm))))).other W49 (Or.inl (Nat.ne_of_lt (Nat.lt_of_lt_of_le lt_b40 (Nat.le_of_eq g43.symm))))).other W52 (Or.inl (Nat.ne_of_lt (Nat.lt_of_lt_of_le lt_b40 (Nat.le_of_eq g43.symm))))) V52 (O2.ext (((((X00.ext E40).ext E43).wr W46 (Nat.le_trans Z0 (Nat.le_trans K40.1 (Nat.le_of_eq g43.symm)))).wr W49 (Nat.le_trans Z0 (Nat.le_trans K40.1 (Nat.le_of_eq g43.symm)))).wr W52 (Nat.le_trans Z0 (Nat.le_trans K40.1 (Nat.le_of_eq g43.symm)))).2) P5 rfl rfl (by decide) (by decide) hp54 rfl (by decide) (by decide)) (g := (mkF m 103 #[.val (.int p0), .val (.int (p0 &&& (3 : Int32))), .val (.int ca), .val (.int cb), .val (.int cd)] [(.ref b43), (.ref b40), (.ref b40)])) rfl (by rw [hml]; rfl) (Steps.refl _) (a := b40) (argsL := [(.ref b43)]) (rest := [(.ref b40)]) (lenOf pd_oaCcV rfl) rfl (by show 2 * 0 + _ ≤ _; exact Nat.le_of_eq rfl) (hb hby d_method_2_code_103) (fun _ _ => ⟨rfl, e52, (by decide : 2 + 1 ≤ _), (by decide : 7 + 3 ≤ _)⟩)
        dsimp only [Pt.U, Pt.locs, Pt.cells, Pt.slots] at X55 l55 y55 z55 st55 hQ55
        subst l55 y55 z55
        obtain ⟨rfl, Nq55, Kq55, Ex55, Fc55, t55, kb55, ge55, gh55, ne55, Fv55, Va55⟩ := hQ55
        have c56 : Steps p.tables e below S0 (T55.setTop (mkF m 106 #[.val (.int p0), .val (.int (p0 &&& (3 : Int32))), .val (.int ca), .val (.int cb), .val (.int cd)] [(.ref b40)])) := c53.trans (st55)
        have N55 := Fr.app N52 Nq55
        have z55 : n0 ≤ T55.heap.size := Nat.le_trans z52 Kq55.1
        have K55 := K52.trans Kq55 (allS (Or.inr (Nat.le_trans K0.1 (Nat.le_of_eq g40.symm))) all0)
        have r55 : CHr Z EL s.vm h52 s.vm T55.heap := CHr.keep Kq55 (sfS (r52.safe (Nat.lt_of_lt_of_le lt_b40 (Nat.le_trans (Nat.le_trans E43.1 (Keep.of_wr W46).1) (Keep.of_wr W49).1)) (r49.safe (Nat.lt_of_lt_of_le lt_b40 (Nat.le_trans E43.1 (Keep.of_wr W46).1)) (r46.safe (Nat.lt_of_lt_of_le lt_b40 E43.1) (r43.safe lt_b40 sf40)))) sf0) R52.1
        have R55 := R52.trans r55
        have lt_t55 : t55 < T55.heap.size := Va55.lt
        have hcd55 : StrChars.Road.CodA ([(nar .char ca), (nar .char cb), (nar .char cd)] : List Int32) 0 (3 : Int32) (((([(nar .char ca), (nar .char cb), (nar .char cd)] : List Int32)).map (fun c => c.toInt8.toInt32)).map Value.int) := StrChars.Road.codOf (n := 3) rfl (fun c hc => (hp54 c hc).2)
        obtain ⟨fs, hr, hrun, hended, hW⟩ := X55.leaveW hS0 (Nat.le_trans (Nat.zero_le _) (Nat.le_trans (Nat.le_trans (Nat.le_trans (Nat.le_trans (Nat.le_trans E40.1 E43.1) (Keep.of_wr W46).1) (Keep.of_wr W49).1) (Keep.of_wr W52).1) Kq55.1)) (v := some (.ref b40)) (fun h => by rw [Bd.returns] at h; cases h)
        refine ⟨_, _, c56.trans (retOut X55 hx Bd.returns rfl (Or.inr (Or.inr (Or.inr (Or.inr ⟨rfl, rfl, rfl⟩)))) (hb hby d_method_2_code_106) hr), hrun, hended, _, _, rfl, ?_, ?_, hW.1, hW.2.1, hW.2.2.1, hW.2.2.2.mono (by decide) (by decide)⟩
        · show QSg Z p0 h0 n0 _ T55.heap _
          have So : OStr Z T55.heap b40 t55 _ ([(nar .char ca), (nar .char cb), (nar .char cd)] : List Int32) := ⟨Ex55, Fv55, Fc55, Va55, hp54, Nat.le_of_ble_eq_true rfl⟩
          exact ⟨_, _, _, _, rfl, N55, K55, (Nat.le_trans K0.1 (Nat.le_of_eq g40.symm)), So, ⟨(fun q => nomatch q), fun q => absurd q hq8⟩⟩
        · show CHr Z EL s.vm s.heap T55.vm T55.heap
          rw [hh]; exact R55.trans (CHv.at X55 hZ hEL R55.1)

def own_span (rr te N j : Int32) (len : Nat) : Int32 := if rr = 0 then (if len = 0 then (if te = 0 then 0 else 1) else 1) else if N - j = 1 then (if len = 0 then (if te = 0 then 0 else N - j) else N - j) else N - j
def QSp (Z : State) (r : Int32) (h0 : Heap) (n0 : Nat) (v : Option Value) (h : Heap) (L : List Loc) : Prop := v = some (.int r) ∧ Fr n0 L ∧ h = h0

theorem d_prog_11_method_7_code_0 : decode prog_11_method_7_code 0 = .ok (.aload_n 0, 1) := by decide +kernel
theorem d_prog_11_method_7_code_1 : decode prog_11_method_7_code 1 = .ok (.getfield 36, 3) := by decide +kernel
theorem d_prog_11_method_7_code_4 : decode prog_11_method_7_code 4 = .ok (.ifCond .eq 10, 3) := by decide +kernel
theorem d_prog_11_method_7_code_14 : decode prog_11_method_7_code 14 = .ok (.iconst 1, 1) := by decide +kernel
theorem d_prog_11_method_7_code_15 : decode prog_11_method_7_code 15 = .ok (.istore_n 3, 1) := by decide +kernel
theorem d_prog_11_method_7_code_16 : decode prog_11_method_7_code 16 = .ok (.iload_n 3, 1) := by decide +kernel
theorem d_prog_11_method_7_code_17 : decode prog_11_method_7_code 17 = .ok (.iconst 1, 1) := by decide +kernel
theorem d_prog_11_method_7_code_18 : decode prog_11_method_7_code 18 = .ok (.if_icmp .ne 16, 3) := by decide +kernel
theorem d_prog_11_method_7_code_21 : decode prog_11_method_7_code 21 = .ok (.aload_n 1, 1) := by decide +kernel
theorem d_prog_11_method_7_code_22 : decode prog_11_method_7_code 22 = .ok (.iload_n 2, 1) := by decide +kernel
theorem d_prog_11_method_7_code_23 : decode prog_11_method_7_code 23 = .ok (.aaload, 1) := by decide +kernel
theorem pd_ocZ : parseMethodDescriptor "()Z" = some ⟨[], some .boolean⟩ := by decide +kernel
theorem d_prog_11_method_7_code_24 : decode prog_11_method_7_code 24 = .ok (.invokevirtual 43, 3) := by decide +kernel
theorem d_prog_11_method_7_code_27 : decode prog_11_method_7_code 27 = .ok (.ifCond .eq 7, 3) := by decide +kernel
theorem d_prog_11_method_7_code_34 : decode prog_11_method_7_code 34 = .ok (.iconst 0, 1) := by decide +kernel
theorem d_prog_11_method_7_code_35 : decode prog_11_method_7_code 35 = .ok (.istore 4, 2) := by decide +kernel
theorem d_prog_11_method_7_code_37 : decode prog_11_method_7_code 37 = .ok (.iload 4, 2) := by decide +kernel
theorem d_prog_11_method_7_code_39 : decode prog_11_method_7_code 39 = .ok (.ifCond .eq 14, 3) := by decide +kernel
theorem d_prog_11_method_7_code_53 : decode prog_11_method_7_code 53 = .ok (.iload_n 3, 1) := by decide +kernel
theorem d_prog_11_method_7_code_54 : decode prog_11_method_7_code 54 = .ok (.ireturn, 1) := by decide +kernel
theorem d_prog_11_method_7_code_30 : decode prog_11_method_7_code 30 = .ok (.iconst 1, 1) := by decide +kernel
theorem d_prog_11_method_7_code_31 : decode prog_11_method_7_code 31 = .ok (.goto 4, 3) := by decide +kernel
theorem d_prog_11_method_7_code_42 : decode prog_11_method_7_code 42 = .ok (.aload_n 0, 1) := by decide +kernel
theorem d_prog_11_method_7_code_43 : decode prog_11_method_7_code 43 = .ok (.getfield 40, 3) := by decide +kernel
theorem d_prog_11_method_7_code_46 : decode prog_11_method_7_code 46 = .ok (.ifCond .ne 7, 3) := by decide +kernel
theorem d_prog_11_method_7_code_49 : decode prog_11_method_7_code 49 = .ok (.iconst 0, 1) := by decide +kernel
theorem d_prog_11_method_7_code_50 : decode prog_11_method_7_code 50 = .ok (.goto 4, 3) := by decide +kernel
theorem d_prog_11_method_7_code_7 : decode prog_11_method_7_code 7 = .ok (.aload_n 1, 1) := by decide +kernel
theorem d_prog_11_method_7_code_8 : decode prog_11_method_7_code 8 = .ok (.arraylength, 1) := by decide +kernel
theorem d_prog_11_method_7_code_9 : decode prog_11_method_7_code 9 = .ok (.iload_n 2, 1) := by decide +kernel
theorem d_prog_11_method_7_code_10 : decode prog_11_method_7_code 10 = .ok (.isub, 1) := by decide +kernel
theorem d_prog_11_method_7_code_11 : decode prog_11_method_7_code 11 = .ok (.goto 4, 3) := by decide +kernel
theorem pn_com_example_libroute_libroute_pattern_ParameterKind : plainName "com/example/libroute/libroute/pattern/ParameterKind" = true := by first | (simp [plainName, overriddenIn]; done) | decide +kernel
theorem ef_rmSp (m : MethodId) (x0 : Addr) (x1 : Addr) (x2 : Int32) : entryFrame m #[(.ref x0), (.ref x1), (.int x2)] 5 = mkF m 0 #[.val (.ref x0), .val (.ref x1), .val (.int x2), .unset, .unset] [] := by first | (simp [entryFrame, mkF, argsToLocals, Value.category]; done) | rfl
set_option maxRecDepth 65536 in
set_option maxHeartbeats 40000000 in
theorem rmSp (l : Launch) (Z : State) (a0 : Array Value) (hw : ∀ d ∈ tables_1, d.before a0 Z = true) (ws : List Jvm.Cond) (x b : Addr) (rr te N j : Int32) (k : ClassId) (vs : List Value) (sx tx : Addr) (kx : ClassId) (cs : List Int32) (G1 : Int32) (h0 : Heap) (n0 : Nat) (Z0 : n0 ≤ h0.size) (F0 : Fld Z h0 x "com/example/libroute/libroute/pattern/ParameterKind" "rest" "Z" (.int rr)) (F1 : Fld Z h0 x "com/example/libroute/libroute/pattern/ParameterKind" "takesEmpty" "Z" (.int te)) (Vb : Arv Z h0 b k (.object "java/lang/String") N vs .null) (hj : ¬ j < 0 ∧ j < N) (hat : vs.getD j.toNatClampNeg .null = .ref sx) (Sx : OStr Z h0 sx tx kx cs) (O2 : Sta Z Z.heap "java/lang/String" "COMPACT_STRINGS" "Z" (.int G1)) (P5 : ¬ G1 = 0) (X00 : Old Z n0 h0) :
    MetFree l (⟨"com/example/libroute/libroute/pattern/ParameterKind", "span", "([Ljava/lang/String;I)I"⟩ : MethodName) (head1 (Jvm.Cond.code (⟨"com/example/libroute/libroute/pattern/ParameterKind", "span", "([Ljava/lang/String;I)I"⟩ : MethodName) prog_11_method_7_code 5 (some .int) :: ws) ({ frames := 1, cells := 0, slots := 0, locals := 12 } : Room)) (fun aa U => aa = #[(.ref x), (.ref b), (.int j)] ∧ Z.Warmed39 U.vm ∧ U.heap = h0) (fun _ _ _ _ _ => True) (fun _ U o U' => ∃ v L, o = .returned v ∧ QSp Z (own_span rr te N j cs.length) h0 n0 v U'.heap L ∧ FrameEnd U o U' L ({ frames := 1, cells := 0, slots := 0, locals := 12 } : Room).cells ({ frames := 1, cells := 0, slots := 0, locals := 12 } : Room).slots) := by
  refine MetFree.of_bodySF (plainFor_of_name pn_com_example_libroute_libroute_pattern_ParameterKind) hisR ?_
  intro p e s m args below meth c s₁ Bd hml0 hP hK
  obtain ⟨rfl, hZ, hh⟩ := hP
  have hx := Bd.exec
  have hby := Bd.bytes
  have hml : c.maxLocals = 5 := hml0
  have hown : s.vm.findClass "com/example/libroute/libroute/pattern/ParameterKind" = some m.cls := findClass_of_methodNamed Bd.named
  have hnm := (name_of_methodNamed Bd.named Bd.method).1
  have X0 : Stand p l e ({ frames := 1, cells := 0, slots := 0, locals := 12 } : Room) s m #[(.ref x), (.ref b), (.int j)] below meth c s₁ [] 0 0 := Stand.of_body Bd
  have e0 : s₁.heap = h0 := by rw [← hh, Bd.state]; rfl
  have N0 := Fr.nil n0
  have K0 := Keep.refl h0 []
  obtain ⟨S0, hS0⟩ : ∃ z, z = s₁.setTop (entryFrame m #[(.ref x), (.ref b), (.int j)] 5) := ⟨_, rfl⟩
  rw [← hS0]
  have c0 : Steps p.tables e below S0 (s₁.setTop (mkF m 0 #[.val (.ref x), .val (.ref b), .val (.int j), .unset, .unset] [])) := by
    rw [hS0]; exact castTop (ef_rmSp m x b j) (Steps.refl _)
  have c1 : Steps p.tables e below S0 (s₁.setTop (mkF m 1 #[.val (.ref x), .val (.ref b), .val (.int j), .unset, .unset] [(.ref x)])) := c0.trans (by
    show Steps p.tables e below (s₁.setTop (mkF m 0 #[.val (.ref x), .val (.ref b), .val (.int j), .unset, .unset] [])) _
    refine XS.aloadN X0.here hx rfl (hb hby d_prog_11_method_7_code_0) rfl rfl ?_
    exact Steps.refl _)
  obtain ⟨T2, X2, e2, st2⟩ := getF X0 hx hZ hown (host := "") (Or.inl (hw _ (List.mem_of_getElem? (i := 62) rfl))) Via.refl e0 F0 (g := (mkF m 1 #[.val (.ref x), .val (.ref b), .val (.int j), .unset, .unset] [(.ref x)])) rfl rfl (hb hby d_prog_11_method_7_code_1)
  have c3 : Steps p.tables e below S0 (T2.setTop (mkF m 4 #[.val (.ref x), .val (.ref b), .val (.int j), .unset, .unset] [(.int rr)])) := c1.trans (st2 _ (Steps.refl _))
  by_cases hq4 : rr = (0 : Int32)
  · have c5 : Steps p.tables e below S0 (T2.setTop (mkF m 23 #[.val (.ref x), .val (.ref b), .val (.int j), .val (.int (1 : Int32)), .unset] [(.int j), (.ref b)])) := c3.trans (by
      show Steps p.tables e below (T2.setTop (mkF m 4 #[.val (.ref x), .val (.ref b), .val (.int j), .unset, .unset] [(.int rr)])) _
      refine XS.ifYes X2.here hx rfl (pc0 := 4) (pc' := 14) rfl (hb hby d_prog_11_method_7_code_4) rfl ((if0 _ _).trans (teq hq4).1) (by decide) (by decide) ?_
      refine XS.iconst X2.here hx rfl (hb hby d_prog_11_method_7_code_14) ?_
      refine XS.istoreN X2.here hx rfl (hb hby d_prog_11_method_7_code_15) rfl (l' := #[.val (.ref x), .val (.ref b), .val (.int j), .val (.int (1 : Int32)), .unset]) rfl ?_
      refine XS.iloadN X2.here hx rfl (hb hby d_prog_11_method_7_code_16) rfl ?_
      show Steps p.tables e below (T2.setTop (mkF m 17 #[.val (.ref x), .val (.ref b), .val (.int j), .val (.int (1 : Int32)), .unset] [(.int (1 : Int32))])) _
      refine XS.iconst X2.here hx rfl (hb hby d_prog_11_method_7_code_17) ?_
      refine XS.icmpNo X2.here hx rfl (hb hby d_prog_11_method_7_code_18) rfl (teq (by decide : ((1 : Int32) = (1 : Int32)))).2 ?_
      refine XS.aloadN X2.here hx rfl (hb hby d_prog_11_method_7_code_21) rfl rfl ?_
      refine XS.iloadN X2.here hx rfl (hb hby d_prog_11_method_7_code_22) rfl ?_
      exact Steps.refl _)
    obtain ⟨cl6, Ar6, -, S6, -, Ha6, -⟩ := id Vb
    have hin6 := inb_of S6 hj
    have hat6 := Ha6.at hin6 hat
    have c7 : Steps p.tables e below S0 (T2.setTop (mkF m 24 #[.val (.ref x), .val (.ref b), .val (.int j), .val (.int (1 : Int32)), .unset] [(.ref sx)])) := c5.trans (by
      show Steps p.tables e below (T2.setTop (mkF m 23 #[.val (.ref x), .val (.ref b), .val (.int j), .val (.int (1 : Int32)), .unset] [(.int j), (.ref b)])) _
      refine X2.aaload hx (j := j) (v := (.ref sx)) (by rw [e2]; exact Ar6.1) (State.isArrayOf_alike hZ.alike Ar6.2.1) rfl Ar6.2.2 hin6 hat6 (g := (mkF m 23 #[.val (.ref x), .val (.ref b), .val (.int j), .val (.int (1 : Int32)), .unset] [(.int j), (.ref b)])) rfl rfl (hb hby d_prog_11_method_7_code_23) _ ?_
      exact Steps.refl _)
    have hem8 : ∀ d ∈ StrChars.Road.wordsEmp, d.before a0 Z = true := fun d hd => hw d (own_in_wordsEmp d hd)
    obtain ⟨cq9, kq9, q9a, q9b, q9c⟩ := isOf hZ e2 Sx.1
    obtain ⟨_, _, ⟨T9, L9, kk9, nn9⟩, -, X9, ⟨Lc9, hQ9, l9, y9, z9⟩, st9⟩ := X2.virtualBack hx (y := (⟨"java/lang/String", "isEmpty", "()Z"⟩ : MethodName)) (z := (⟨"java/lang/String", "isEmpty", "()Z"⟩ : MethodName)) hown (mvT hZ (hw _ (List.mem_of_getElem? (i := 64) rfl))) (mvT hZ (hw _ (List.mem_of_getElem? (i := 65) rfl))) (notFace_of_selects (args := #[]) (mvT hZ (hw _ (List.mem_of_getElem? (i := 67) rfl)))) (mvT hZ (hw _ (List.mem_of_getElem? (i := 67) rfl))) (mvT hZ (hw _ (List.mem_of_getElem? (i := 66) rfl))) (by decide) (StrChars.Road.empW (W := 0) hZ hem8 (kI := 4) (hw _ (List.mem_of_getElem? (i := 9) rfl)) Sx.1 Sx.2.1 Sx.2.2.1 Sx.2.2.2.1 Sx.cod (own_up _ Sx.2.2.2.2.1) Sx.2.2.2.2.2 (by decide) (by decide)) q9a q9c (g := (mkF m 24 #[.val (.ref x), .val (.ref b), .val (.int j), .val (.int (1 : Int32)), .unset] [(.ref sx)])) rfl (by rw [hml]; rfl) (Steps.refl _) (argsL := []) (rest := []) (lenOf pd_ocZ rfl) rfl (by show 2 * 0 + _ ≤ _; exact Nat.le_of_eq rfl) (hb hby d_prog_11_method_7_code_24) (fun _ _ => ⟨rfl, e2, (by decide : 0 + 0 ≤ _), (by decide : 0 + 0 ≤ _)⟩)
    dsimp only [Pt.U, Pt.locs, Pt.cells, Pt.slots] at X9 l9 y9 z9 st9 hQ9
    subst l9 y9 z9
    obtain ⟨r9, rfl, hr9⟩ := own_tfe hQ9.1
    have eq9 := hQ9.2.2
    have c10 : Steps p.tables e below S0 (T9.setTop (mkF m 27 #[.val (.ref x), .val (.ref b), .val (.int j), .val (.int (1 : Int32)), .unset] [(.int r9)])) := c7.trans (st9)
    have N9 := Fr.app N0 (hQ9.2.1 ▸ Fr.nil n0)
    by_cases hq11 : r9 = (0 : Int32)
    · have c12 : Steps p.tables e below S0 (T9.setTop (mkF m 54 #[.val (.ref x), .val (.ref b), .val (.int j), .val (.int (1 : Int32)), .val (.int (0 : Int32))] [(.int (1 : Int32))])) := c10.trans (by
        show Steps p.tables e below (T9.setTop (mkF m 27 #[.val (.ref x), .val (.ref b), .val (.int j), .val (.int (1 : Int32)), .unset] [(.int r9)])) _
        refine XS.ifYes X9.here hx rfl (pc0 := 27) (pc' := 34) rfl (hb hby d_prog_11_method_7_code_27) rfl ((if0 _ _).trans (teq hq11).1) (by decide) (by decide) ?_
        refine XS.iconst X9.here hx rfl (hb hby d_prog_11_method_7_code_34) ?_
        refine XS.istore X9.here hx rfl (hb hby d_prog_11_method_7_code_35) rfl (l' := #[.val (.ref x), .val (.ref b), .val (.int j), .val (.int (1 : Int32)), .val (.int (0 : Int32))]) rfl ?_
        refine XS.iload X9.here hx rfl (hb hby d_prog_11_method_7_code_37) rfl ?_
        show Steps p.tables e below (T9.setTop (mkF m 39 #[.val (.ref x), .val (.ref b), .val (.int j), .val (.int (1 : Int32)), .val (.int (0 : Int32))] [(.int (0 : Int32))])) _
        refine XS.ifYes X9.here hx rfl (pc0 := 39) (pc' := 53) rfl (hb hby d_prog_11_method_7_code_39) rfl ((if0 _ _).trans (teq (by decide : ((0 : Int32) = (0 : Int32)))).1) (by decide) (by decide) ?_
        refine XS.iloadN X9.here hx rfl (hb hby d_prog_11_method_7_code_53) rfl ?_
        exact Steps.refl _)
      obtain ⟨fs, hr, hrun, hended, hW, hsame⟩ := X9.leave (v := some (.int (1 : Int32))) (fun h => by rw [Bd.returns] at h; cases h)
      refine ⟨_, _, c12.trans (retOut X9 hx Bd.returns rfl (Or.inl ⟨rfl, by simp, _, rfl⟩) (hb hby d_prog_11_method_7_code_54) hr), hrun, hended, _, _, rfl, ?_, ⟨_, rfl⟩, hW, hsame.mono (by decide) (by decide)⟩
      show QSp Z (own_span rr te N j cs.length) h0 n0 _ T9.heap _
      rw [eq9]
      exact ⟨by rw [own_span, if_pos hq4, if_neg (own_n hr9 hq11)], N9, rfl⟩
    · have c13 : Steps p.tables e below S0 (T9.setTop (mkF m 43 #[.val (.ref x), .val (.ref b), .val (.int j), .val (.int (1 : Int32)), .val (.int (1 : Int32))] [(.ref x)])) := c10.trans (by
        show Steps p.tables e below (T9.setTop (mkF m 27 #[.val (.ref x), .val (.ref b), .val (.int j), .val (.int (1 : Int32)), .unset] [(.int r9)])) _
        refine XS.ifNo X9.here hx rfl (hb hby d_prog_11_method_7_code_27) rfl ((if0 _ _).trans (feq hq11).1) ?_
        refine XS.iconst X9.here hx rfl (hb hby d_prog_11_method_7_code_30) ?_
        refine XS.goto X9.here hx rfl (pc0 := 31) (pc' := 35) rfl (hb hby d_prog_11_method_7_code_31) (by decide) (by decide) ?_
        refine XS.istore X9.here hx rfl (hb hby d_prog_11_method_7_code_35) rfl (l' := #[.val (.ref x), .val (.ref b), .val (.int j), .val (.int (1 : Int32)), .val (.int (1 : Int32))]) rfl ?_
        show Steps p.tables e below (T9.setTop (mkF m 37 #[.val (.ref x), .val (.ref b), .val (.int j), .val (.int (1 : Int32)), .val (.int (1 : Int32))] [])) _
        refine XS.iload X9.here hx rfl (hb hby d_prog_11_method_7_code_37) rfl ?_
        refine XS.ifNo X9.here hx rfl (hb hby d_prog_11_method_7_code_39) rfl ((if0 _ _).trans (feq (by decide : ¬ ((1 : Int32) = (0 : Int32)))).1) ?_
        refine XS.aloadN X9.here hx rfl (hb hby d_prog_11_method_7_code_42) rfl rfl ?_
        exact Steps.refl _)
      obtain ⟨T14, X14, e14, st14⟩ := getF X9 hx hZ hown (host := "") (Or.inl (hw _ (List.mem_of_getElem? (i := 71) rfl))) Via.refl eq9 F1 (g := (mkF m 43 #[.val (.ref x), .val (.ref b), .val (.int j), .val (.int (1 : Int32)), .val (.int (1 : Int32))] [(.ref x)])) rfl rfl (hb hby d_prog_11_method_7_code_43)
      have c15 : Steps p.tables e below S0 (T14.setTop (mkF m 46 #[.val (.ref x), .val (.ref b), .val (.int j), .val (.int (1 : Int32)), .val (.int (1 : Int32))] [(.int te)])) := c13.trans (st14 _ (Steps.refl _))
      by_cases hq16 : te = (0 : Int32)
      · have c17 : Steps p.tables e below S0 (T14.setTop (mkF m 54 #[.val (.ref x), .val (.ref b), .val (.int j), .val (.int (1 : Int32)), .val (.int (1 : Int32))] [(.int (0 : Int32))])) := c15.trans (by
          show Steps p.tables e below (T14.setTop (mkF m 46 #[.val (.ref x), .val (.ref b), .val (.int j), .val (.int (1 : Int32)), .val (.int (1 : Int32))] [(.int te)])) _
          refine XS.ifNo X14.here hx rfl (hb hby d_prog_11_method_7_code_46) rfl ((if0 _ _).trans (teq hq16).2) ?_
          refine XS.iconst X14.here hx rfl (hb hby d_prog_11_method_7_code_49) ?_
          refine XS.goto X14.here hx rfl (pc0 := 50) (pc' := 54) rfl (hb hby d_prog_11_method_7_code_50) (by decide) (by decide) ?_
          exact Steps.refl _)
        obtain ⟨fs, hr, hrun, hended, hW, hsame⟩ := X14.leave (v := some (.int (0 : Int32))) (fun h => by rw [Bd.returns] at h; cases h)
        refine ⟨_, _, c17.trans (retOut X14 hx Bd.returns rfl (Or.inl ⟨rfl, by simp, _, rfl⟩) (hb hby d_prog_11_method_7_code_54) hr), hrun, hended, _, _, rfl, ?_, ⟨_, rfl⟩, hW, hsame.mono (by decide) (by decide)⟩
        show QSp Z (own_span rr te N j cs.length) h0 n0 _ T14.heap _
        rw [e14]
        exact ⟨by rw [own_span, if_pos hq4, if_pos (own_y hr9 hq11), if_pos hq16], N9, rfl⟩
      · have c18 : Steps p.tables e below S0 (T14.setTop (mkF m 54 #[.val (.ref x), .val (.ref b), .val (.int j), .val (.int (1 : Int32)), .val (.int (1 : Int32))] [(.int (1 : Int32))])) := c15.trans (by
          show Steps p.tables e below (T14.setTop (mkF m 46 #[.val (.ref x), .val (.ref b), .val (.int j), .val (.int (1 : Int32)), .val (.int (1 : Int32))] [(.int te)])) _
          refine XS.ifYes X14.here hx rfl (pc0 := 46) (pc' := 53) rfl (hb hby d_prog_11_method_7_code_46) rfl ((if0 _ _).trans (feq hq16).2) (by decide) (by decide) ?_
          refine XS.iloadN X14.here hx rfl (hb hby d_prog_11_method_7_code_53) rfl ?_
          exact Steps.refl _)
        obtain ⟨fs, hr, hrun, hended, hW, hsame⟩ := X14.leave (v := some (.int (1 : Int32))) (fun h => by rw [Bd.returns] at h; cases h)
        refine ⟨_, _, c18.trans (retOut X14 hx Bd.returns rfl (Or.inl ⟨rfl, by simp, _, rfl⟩) (hb hby d_prog_11_method_7_code_54) hr), hrun, hended, _, _, rfl, ?_, ⟨_, rfl⟩, hW, hsame.mono (by decide) (by decide)⟩
        show QSp Z (own_span rr te N j cs.length) h0 n0 _ T14.heap _
        rw [e14]
        exact ⟨by rw [own_span, if_pos hq4, if_pos (own_y hr9 hq11), if_neg hq16], N9, rfl⟩
  · have c19 : Steps p.tables e below S0 (T2.setTop (mkF m 8 #[.val (.ref x), .val (.ref b), .val (.int j), .unset, .unset] [(.ref b)])) := c3.trans (by
      show Steps p.tables e below (T2.setTop (mkF m 4 #[.val (.ref x), .val (.ref b), .val (.int j), .unset, .unset] [(.int rr)])) _
      refine XS.ifNo X2.here hx rfl (hb hby d_prog_11_method_7_code_4) rfl ((if0 _ _).trans (feq hq4).1) ?_
      refine XS.aloadN X2.here hx rfl (hb hby d_prog_11_method_7_code_7) rfl rfl ?_
      exact Steps.refl _)
    obtain ⟨cl20, Ar20, -, S20, Nn20, -, -⟩ := id Vb
    have c21 : Steps p.tables e below S0 (T2.setTop (mkF m 18 #[.val (.ref x), .val (.ref b), .val (.int j), .val (.int (N - j)), .unset] [(.int (1 : Int32)), (.int (N - j))])) := c19.trans (by
      show Steps p.tables e below (T2.setTop (mkF m 8 #[.val (.ref x), .val (.ref b), .val (.int j), .unset, .unset] [(.ref b)])) _
      refine X2.arraylength hx (by rw [e2]; exact Ar20.1) (State.isArrayOf_alike hZ.alike Ar20.2.1) (g := (mkF m 8 #[.val (.ref x), .val (.ref b), .val (.int j), .unset, .unset] [(.ref b)])) rfl rfl (hb hby d_prog_11_method_7_code_8) _ ?_
      rw [len_of S20 Nn20]
      refine XS.iloadN X2.here hx rfl (hb hby d_prog_11_method_7_code_9) rfl ?_
      refine XS.isub X2.here hx rfl (hb hby d_prog_11_method_7_code_10) rfl ?_
      show Steps p.tables e below (T2.setTop (mkF m 11 #[.val (.ref x), .val (.ref b), .val (.int j), .unset, .unset] [(.int (N - j))])) _
      refine XS.goto X2.here hx rfl (pc0 := 11) (pc' := 15) rfl (hb hby d_prog_11_method_7_code_11) (by decide) (by decide) ?_
      refine XS.istoreN X2.here hx rfl (hb hby d_prog_11_method_7_code_15) rfl (l' := #[.val (.ref x), .val (.ref b), .val (.int j), .val (.int (N - j)), .unset]) rfl ?_
      refine XS.iloadN X2.here hx rfl (hb hby d_prog_11_method_7_code_16) rfl ?_
      refine XS.iconst X2.here hx rfl (hb hby d_prog_11_method_7_code_17) ?_
      exact Steps.refl _)
    by_cases hq22 : (N - j) = (1 : Int32)
    · have c23 : Steps p.tables e below S0 (T2.setTop (mkF m 23 #[.val (.ref x), .val (.ref b), .val (.int j), .val (.int (N - j)), .unset] [(.int j), (.ref b)])) := c21.trans (by
        show Steps p.tables e below (T2.setTop (mkF m 18 #[.val (.ref x), .val (.ref b), .val (.int j), .val (.int (N - j)), .unset] [(.int (1 : Int32)), (.int (N - j))])) _
        refine XS.icmpNo X2.here hx rfl (hb hby d_prog_11_method_7_code_18) rfl (teq hq22).2 ?_
        refine XS.aloadN X2.here hx rfl (hb hby d_prog_11_method_7_code_21) rfl rfl ?_
        refine XS.iloadN X2.here hx rfl (hb hby d_prog_11_method_7_code_22) rfl ?_
        exact Steps.refl _)
      obtain ⟨cl24, Ar24, -, S24, -, Ha24, -⟩ := id Vb
      have hin24 := inb_of S24 hj
      have hat24 := Ha24.at hin24 hat
      have c25 : Steps p.tables e below S0 (T2.setTop (mkF m 24 #[.val (.ref x), .val (.ref b), .val (.int j), .val (.int (N - j)), .unset] [(.ref sx)])) := c23.trans (by
        show Steps p.tables e below (T2.setTop (mkF m 23 #[.val (.ref x), .val (.ref b), .val (.int j), .val (.int (N - j)), .unset] [(.int j), (.ref b)])) _
        refine X2.aaload hx (j := j) (v := (.ref sx)) (by rw [e2]; exact Ar24.1) (State.isArrayOf_alike hZ.alike Ar24.2.1) rfl Ar24.2.2 hin24 hat24 (g := (mkF m 23 #[.val (.ref x), .val (.ref b), .val (.int j), .val (.int (N - j)), .unset] [(.int j), (.ref b)])) rfl rfl (hb hby d_prog_11_method_7_code_23) _ ?_
        exact Steps.refl _)
      have hem26 : ∀ d ∈ StrChars.Road.wordsEmp, d.before a0 Z = true := fun d hd => hw d (own_in_wordsEmp d hd)
      obtain ⟨cq27, kq27, q27a, q27b, q27c⟩ := isOf hZ e2 Sx.1
      obtain ⟨_, _, ⟨T27, L27, kk27, nn27⟩, -, X27, ⟨Lc27, hQ27, l27, y27, z27⟩, st27⟩ := X2.virtualBack hx (y := (⟨"java/lang/String", "isEmpty", "()Z"⟩ : MethodName)) (z := (⟨"java/lang/String", "isEmpty", "()Z"⟩ : MethodName)) hown (mvT hZ (hw _ (List.mem_of_getElem? (i := 64) rfl))) (mvT hZ (hw _ (List.mem_of_getElem? (i := 65) rfl))) (notFace_of_selects (args := #[]) (mvT hZ (hw _ (List.mem_of_getElem? (i := 67) rfl)))) (mvT hZ (hw _ (List.mem_of_getElem? (i := 67) rfl))) (mvT hZ (hw _ (List.mem_of_getElem? (i := 66) rfl))) (by decide) (StrChars.Road.empW (W := 0) hZ hem26 (kI := 4) (hw _ (List.mem_of_getElem? (i := 9) rfl)) Sx.1 Sx.2.1 Sx.2.2.1 Sx.2.2.2.1 Sx.cod (own_up _ Sx.2.2.2.2.1) Sx.2.2.2.2.2 (by decide) (by decide)) q27a q27c (g := (mkF m 24 #[.val (.ref x), .val (.ref b), .val (.int j), .val (.int (N - j)), .unset] [(.ref sx)])) rfl (by rw [hml]; rfl) (Steps.refl _) (argsL := []) (rest := []) (lenOf pd_ocZ rfl) rfl (by show 2 * 0 + _ ≤ _; exact Nat.le_of_eq rfl) (hb hby d_prog_11_method_7_code_24) (fun _ _ => ⟨rfl, e2, (by decide : 0 + 0 ≤ _), (by decide : 0 + 0 ≤ _)⟩)
      dsimp only [Pt.U, Pt.locs, Pt.cells, Pt.slots] at X27 l27 y27 z27 st27 hQ27
      subst l27 y27 z27
      obtain ⟨r27, rfl, hr27⟩ := own_tfe hQ27.1
      have eq27 := hQ27.2.2
      have c28 : Steps p.tables e below S0 (T27.setTop (mkF m 27 #[.val (.ref x), .val (.ref b), .val (.int j), .val (.int (N - j)), .unset] [(.int r27)])) := c25.trans (st27)
      have N27 := Fr.app N0 (hQ27.2.1 ▸ Fr.nil n0)
      by_cases hq29 : r27 = (0 : Int32)
      · have c30 : Steps p.tables e below S0 (T27.setTop (mkF m 54 #[.val (.ref x), .val (.ref b), .val (.int j), .val (.int (N - j)), .val (.int (0 : Int32))] [(.int (N - j))])) := c28.trans (by
          show Steps p.tables e below (T27.setTop (mkF m 27 #[.val (.ref x), .val (.ref b), .val (.int j), .val (.int (N - j)), .unset] [(.int r27)])) _
          refine XS.ifYes X27.here hx rfl (pc0 := 27) (pc' := 34) rfl (hb hby d_prog_11_method_7_code_27) rfl ((if0 _ _).trans (teq hq29).1) (by decide) (by decide) ?_
          refine XS.iconst X27.here hx rfl (hb hby d_prog_11_method_7_code_34) ?_
          refine XS.istore X27.here hx rfl (hb hby d_prog_11_method_7_code_35) rfl (l' := #[.val (.ref x), .val (.ref b), .val (.int j), .val (.int (N - j)), .val (.int (0 : Int32))]) rfl ?_
          refine XS.iload X27.here hx rfl (hb hby d_prog_11_method_7_code_37) rfl ?_
          show Steps p.tables e below (T27.setTop (mkF m 39 #[.val (.ref x), .val (.ref b), .val (.int j), .val (.int (N - j)), .val (.int (0 : Int32))] [(.int (0 : Int32))])) _
          refine XS.ifYes X27.here hx rfl (pc0 := 39) (pc' := 53) rfl (hb hby d_prog_11_method_7_code_39) rfl ((if0 _ _).trans (teq (by decide : ((0 : Int32) = (0 : Int32)))).1) (by decide) (by decide) ?_
          refine XS.iloadN X27.here hx rfl (hb hby d_prog_11_method_7_code_53) rfl ?_
          exact Steps.refl _)
        obtain ⟨fs, hr, hrun, hended, hW, hsame⟩ := X27.leave (v := some (.int (N - j))) (fun h => by rw [Bd.returns] at h; cases h)
        refine ⟨_, _, c30.trans (retOut X27 hx Bd.returns rfl (Or.inl ⟨rfl, by simp, _, rfl⟩) (hb hby d_prog_11_method_7_code_54) hr), hrun, hended, _, _, rfl, ?_, ⟨_, rfl⟩, hW, hsame.mono (by decide) (by decide)⟩
        show QSp Z (own_span rr te N j cs.length) h0 n0 _ T27.heap _
        rw [eq27]
        exact ⟨by rw [own_span, if_neg hq4, if_pos hq22, if_neg (own_n hr27 hq29)], N27, rfl⟩
      · have c31 : Steps p.tables e below S0 (T27.setTop (mkF m 43 #[.val (.ref x), .val (.ref b), .val (.int j), .val (.int (N - j)), .val (.int (1 : Int32))] [(.ref x)])) := c28.trans (by
          show Steps p.tables e below (T27.setTop (mkF m 27 #[.val (.ref x), .val (.ref b), .val (.int j), .val (.int (N - j)), .unset] [(.int r27)])) _
          refine XS.ifNo X27.here hx rfl (hb hby d_prog_11_method_7_code_27) rfl ((if0 _ _).trans (feq hq29).1) ?_
          refine XS.iconst X27.here hx rfl (hb hby d_prog_11_method_7_code_30) ?_
          refine XS.goto X27.here hx rfl (pc0 := 31) (pc' := 35) rfl (hb hby d_prog_11_method_7_code_31) (by decide) (by decide) ?_
          refine XS.istore X27.here hx rfl (hb hby d_prog_11_method_7_code_35) rfl (l' := #[.val (.ref x), .val (.ref b), .val (.int j), .val (.int (N - j)), .val (.int (1 : Int32))]) rfl ?_
          show Steps p.tables e below (T27.setTop (mkF m 37 #[.val (.ref x), .val (.ref b), .val (.int j), .val (.int (N - j)), .val (.int (1 : Int32))] [])) _
          refine XS.iload X27.here hx rfl (hb hby d_prog_11_method_7_code_37) rfl ?_
          refine XS.ifNo X27.here hx rfl (hb hby d_prog_11_method_7_code_39) rfl ((if0 _ _).trans (feq (by decide : ¬ ((1 : Int32) = (0 : Int32)))).1) ?_
          refine XS.aloadN X27.here hx rfl (hb hby d_prog_11_method_7_code_42) rfl rfl ?_
          exact Steps.refl _)
        obtain ⟨T32, X32, e32, st32⟩ := getF X27 hx hZ hown (host := "") (Or.inl (hw _ (List.mem_of_getElem? (i := 71) rfl))) Via.refl eq27 F1 (g := (mkF m 43 #[.val (.ref x), .val (.ref b), .val (.int j), .val (.int (N - j)), .val (.int (1 : Int32))] [(.ref x)])) rfl rfl (hb hby d_prog_11_method_7_code_43)
        have c33 : Steps p.tables e below S0 (T32.setTop (mkF m 46 #[.val (.ref x), .val (.ref b), .val (.int j), .val (.int (N - j)), .val (.int (1 : Int32))] [(.int te)])) := c31.trans (st32 _ (Steps.refl _))
        by_cases hq34 : te = (0 : Int32)
        · have c35 : Steps p.tables e below S0 (T32.setTop (mkF m 54 #[.val (.ref x), .val (.ref b), .val (.int j), .val (.int (N - j)), .val (.int (1 : Int32))] [(.int (0 : Int32))])) := c33.trans (by
            show Steps p.tables e below (T32.setTop (mkF m 46 #[.val (.ref x), .val (.ref b), .val (.int j), .val (.int (N - j)), .val (.int (1 : Int32))] [(.int te)])) _
            refine XS.ifNo X32.here hx rfl (hb hby d_prog_11_method_7_code_46) rfl ((if0 _ _).trans (teq hq34).2) ?_
            refine XS.iconst X32.here hx rfl (hb hby d_prog_11_method_7_code_49) ?_
            refine XS.goto X32.here hx rfl (pc0 := 50) (pc' := 54) rfl (hb hby d_prog_11_method_7_code_50) (by decide) (by decide) ?_
            exact Steps.refl _)
          obtain ⟨fs, hr, hrun, hended, hW, hsame⟩ := X32.leave (v := some (.int (0 : Int32))) (fun h => by rw [Bd.returns] at h; cases h)
          refine ⟨_, _, c35.trans (retOut X32 hx Bd.returns rfl (Or.inl ⟨rfl, by simp, _, rfl⟩) (hb hby d_prog_11_method_7_code_54) hr), hrun, hended, _, _, rfl, ?_, ⟨_, rfl⟩, hW, hsame.mono (by decide) (by decide)⟩
          show QSp Z (own_span rr te N j cs.length) h0 n0 _ T32.heap _
          rw [e32]
          exact ⟨by rw [own_span, if_neg hq4, if_pos hq22, if_pos (own_y hr27 hq29), if_pos hq34], N27, rfl⟩
        · have c36 : Steps p.tables e below S0 (T32.setTop (mkF m 54 #[.val (.ref x), .val (.ref b), .val (.int j), .val (.int (N - j)), .val (.int (1 : Int32))] [(.int (N - j))])) := c33.trans (by
            show Steps p.tables e below (T32.setTop (mkF m 46 #[.val (.ref x), .val (.ref b), .val (.int j), .val (.int (N - j)), .val (.int (1 : Int32))] [(.int te)])) _
            refine XS.ifYes X32.here hx rfl (pc0 := 46) (pc' := 53) rfl (hb hby d_prog_11_method_7_code_46) rfl ((if0 _ _).trans (feq hq34).2) (by decide) (by decide) ?_
            refine XS.iloadN X32.here hx rfl (hb hby d_prog_11_method_7_code_53) rfl ?_
            exact Steps.refl _)
          obtain ⟨fs, hr, hrun, hended, hW, hsame⟩ := X32.leave (v := some (.int (N - j))) (fun h => by rw [Bd.returns] at h; cases h)
          refine ⟨_, _, c36.trans (retOut X32 hx Bd.returns rfl (Or.inl ⟨rfl, by simp, _, rfl⟩) (hb hby d_prog_11_method_7_code_54) hr), hrun, hended, _, _, rfl, ?_, ⟨_, rfl⟩, hW, hsame.mono (by decide) (by decide)⟩
          show QSp Z (own_span rr te N j cs.length) h0 n0 _ T32.heap _
          rw [e32]
          exact ⟨by rw [own_span, if_neg hq4, if_pos hq22, if_pos (own_y hr27 hq29), if_neg hq34], N27, rfl⟩
    · have c37 : Steps p.tables e below S0 (T2.setTop (mkF m 54 #[.val (.ref x), .val (.ref b), .val (.int j), .val (.int (N - j)), .val (.int (0 : Int32))] [(.int (N - j))])) := c21.trans (by
        show Steps p.tables e below (T2.setTop (mkF m 18 #[.val (.ref x), .val (.ref b), .val (.int j), .val (.int (N - j)), .unset] [(.int (1 : Int32)), (.int (N - j))])) _
        refine XS.icmpYes X2.here hx rfl (pc0 := 18) (pc' := 34) rfl (hb hby d_prog_11_method_7_code_18) rfl (feq hq22).2 (by decide) (by decide) ?_
        refine XS.iconst X2.here hx rfl (hb hby d_prog_11_method_7_code_34) ?_
        refine XS.istore X2.here hx rfl (hb hby d_prog_11_method_7_code_35) rfl (l' := #[.val (.ref x), .val (.ref b), .val (.int j), .val (.int (N - j)), .val (.int (0 : Int32))]) rfl ?_
        refine XS.iload X2.here hx rfl (hb hby d_prog_11_method_7_code_37) rfl ?_
        show Steps p.tables e below (T2.setTop (mkF m 39 #[.val (.ref x), .val (.ref b), .val (.int j), .val (.int (N - j)), .val (.int (0 : Int32))] [(.int (0 : Int32))])) _
        refine XS.ifYes X2.here hx rfl (pc0 := 39) (pc' := 53) rfl (hb hby d_prog_11_method_7_code_39) rfl ((if0 _ _).trans (teq (by decide : ((0 : Int32) = (0 : Int32)))).1) (by decide) (by decide) ?_
        refine XS.iloadN X2.here hx rfl (hb hby d_prog_11_method_7_code_53) rfl ?_
        exact Steps.refl _)
      obtain ⟨fs, hr, hrun, hended, hW, hsame⟩ := X2.leave (v := some (.int (N - j))) (fun h => by rw [Bd.returns] at h; cases h)
      refine ⟨_, _, c37.trans (retOut X2 hx Bd.returns rfl (Or.inl ⟨rfl, by simp, _, rfl⟩) (hb hby d_prog_11_method_7_code_54) hr), hrun, hended, _, _, rfl, ?_, ⟨_, rfl⟩, hW, hsame.mono (by decide) (by decide)⟩
      show QSp Z (own_span rr te N j cs.length) h0 n0 _ T2.heap _
      rw [e2]
      exact ⟨by rw [own_span, if_neg hq4, if_neg hq22], N0, rfl⟩

def Q0 (Z : State) (h0 : Heap) (n0 : Nat) (v : Option Value) (h : Heap) (L : List Loc) : Prop := v = some (.int 1) ∧ Fr n0 L

theorem own_kind {PKD : String} {Z : State} {k3 : Int32} {pk u0 u1 u2 : Addr} (hk : k3 = 0 ∨ k3 = 1 ∨ k3 = 2) (hp : pk = (if k3 = (0 : Int32) then u0 else (if k3 = (1 : Int32) then u1 else u2))) (x0 : Exa Z Z.heap u0 PKD) (x1 : Exa Z Z.heap u1 PKD) (x2 : Exa Z Z.heap u2 PKD) (a0 : Fld Z Z.heap u0 PKD "rest" "Z" (.int 0)) (b0 : Fld Z Z.heap u0 PKD "takesEmpty" "Z" (.int 0)) (a1 : Fld Z Z.heap u1 PKD "rest" "Z" (.int 1)) (b1 : Fld Z Z.heap u1 PKD "takesEmpty" "Z" (.int 0)) (a2 : Fld Z Z.heap u2 PKD "rest" "Z" (.int 1)) (b2 : Fld Z Z.heap u2 PKD "takesEmpty" "Z" (.int 1)) :
    ∃ rr te : Int32, Fld Z Z.heap pk PKD "rest" "Z" (.int rr) ∧ Fld Z Z.heap pk PKD "takesEmpty" "Z" (.int te) ∧ Exa Z Z.heap pk PKD ∧ ((k3 = 0 ∧ rr = 0 ∧ te = 0) ∨ (k3 = 1 ∧ rr = 1 ∧ te = 0) ∨ (k3 = 2 ∧ rr = 1 ∧ te = 1)) := by
  rcases hk with rfl | rfl | rfl
  · exact ⟨0, 0, hp ▸ a0, hp ▸ b0, hp ▸ x0, Or.inl ⟨rfl, rfl, rfl⟩⟩
  · exact ⟨1, 0, hp ▸ a1, hp ▸ b1, hp ▸ x1, Or.inr (Or.inl ⟨rfl, rfl, rfl⟩)⟩
  · exact ⟨1, 1, hp ▸ a2, hp ▸ b2, hp ▸ x2, Or.inr (Or.inr ⟨rfl, rfl, rfl⟩)⟩
theorem own_ix {x nn ix : Int32} (hn : nn = 1 ∨ nn = 2 ∨ nn = 3 ∨ nn = 4) (h : ix = ((x.toUInt32 >>> ((2 : Int32) &&& 31).toUInt32).toInt32) % nn) : ∃ i : Nat, ix = Int32.ofNat i ∧ Int32.ofNat i < nn ∧ i < 4 := by
  obtain ⟨a, ha, e⟩ := own_ushr x (k := 2) ⟨by decide, by decide⟩
  have e2 : ((x.toUInt32 >>> ((2 : Int32) &&& 31).toUInt32).toInt32) = Int32.ofNat a := e
  rw [e2] at h
  have step : ∀ m : Nat, 0 < m → m < 5 → nn = Int32.ofNat m → ∃ i : Nat, ix = Int32.ofNat i ∧ Int32.ofNat i < nn ∧ i < 4 := fun m m0 m5 en => by
    refine ⟨a % m, ?_, ?_, ?_⟩
    · rw [h, en]
      apply Int32.toInt_inj.mp
      have q : a % m ≤ a := Nat.mod_le _ _
      rw [Int32.toInt_mod, own_ofN ha, own_ofN (by omega), own_ofN (by omega)]
      exact (Int.ofNat_tmod a m).symm
    · rw [en, own_ofN_lt (by have := Nat.mod_lt a m0; omega) (by omega)]; exact Nat.mod_lt _ m0
    · have := Nat.mod_lt a m0; omega
  rcases hn with q | q | q | q
  · exact step 1 (by decide) (by decide) q
  · exact step 2 (by decide) (by decide) q
  · exact step 3 (by decide) (by decide) q
  · exact step 4 (by decide) (by decide) q
theorem own_ix4 {ix : Int32} (h : ∃ i : Nat, ix = Int32.ofNat i ∧ Int32.ofNat i < (4 : Int32) ∧ i < 4) : ix = 0 ∨ ix = 1 ∨ ix = 2 ∨ ix = 3 := by
  obtain ⟨i, e, -, h4⟩ := h
  have q : i = 0 ∨ i = 1 ∨ i = 2 ∨ i = 3 := by omega
  rcases q with rfl | rfl | rfl | rfl
  · exact Or.inl e
  · exact Or.inr (Or.inl e)
  · exact Or.inr (Or.inr (Or.inl e))
  · exact Or.inr (Or.inr (Or.inr e))
theorem own_ixle {ix : Int32} {m : Nat} (hm : m < 5) (h : ∃ i : Nat, ix = Int32.ofNat i ∧ Int32.ofNat i < Int32.ofNat m ∧ i < 4) : ∃ i : Nat, ix = Int32.ofNat i ∧ i < m := by
  obtain ⟨i, e, h1, h4⟩ := h
  exact ⟨i, e, (own_ofN_lt (by omega) (by omega)).mp h1⟩
theorem own_ix3 {ix : Int32} (h : ∃ i : Nat, ix = Int32.ofNat i ∧ Int32.ofNat i < (3 : Int32) ∧ i < 4) : ix = 0 ∨ ix = 1 ∨ ix = 2 := by
  obtain ⟨i, e, h4⟩ := own_ixle (m := 3) (by decide) h
  have q : i = 0 ∨ i = 1 ∨ i = 2 := by omega
  rcases q with rfl | rfl | rfl
  · exact Or.inl e
  · exact Or.inr (Or.inl e)
  · exact Or.inr (Or.inr e)
theorem own_ix2 {ix : Int32} (h : ∃ i : Nat, ix = Int32.ofNat i ∧ Int32.ofNat i < (2 : Int32) ∧ i < 4) : ix = 0 ∨ ix = 1 := by
  obtain ⟨i, e, h4⟩ := own_ixle (m := 2) (by decide) h
  have q : i = 0 ∨ i = 1 := by omega
  rcases q with rfl | rfl
  · exact Or.inl e
  · exact Or.inr e
theorem own_ix1 {ix : Int32} (h : ∃ i : Nat, ix = Int32.ofNat i ∧ Int32.ofNat i < (1 : Int32) ∧ i < 4) : ix = 0 := by
  obtain ⟨i, e, h4⟩ := own_ixle (m := 1) (by decide) h
  have q : i = 0 := by omega
  subst q; exact e
theorem own_ex10 {k3 rr te he ex raw : Int32} {len : Nat} (hk : (k3 = 0 ∧ rr = 0 ∧ te = 0) ∨ (k3 = 1 ∧ rr = 1 ∧ te = 0) ∨ (k3 = 2 ∧ rr = 1 ∧ te = 1)) (hl : len = 0 ↔ raw &&& 3 = 0) (hh : he = (if (raw &&& (3 : Int32)) = (0 : Int32) then (1 : Int32) else (0 : Int32))) (hx : ex = (if k3 = (0 : Int32) then (if he = (0 : Int32) then (1 : Int32) else (0 : Int32)) else (if k3 = (1 : Int32) then (if he = (0 : Int32) then (1 : Int32) else (0 : Int32)) else (1 : Int32)))) : own_span rr te 1 0 len = ex := by
  subst hx hh
  unfold own_span
  by_cases q : raw &&& 3 = 0
  · have ql := hl.mpr q
    rcases hk with ⟨rfl, rfl, rfl⟩ | ⟨rfl, rfl, rfl⟩ | ⟨rfl, rfl, rfl⟩ <;> simp [q, ql] <;> decide
  · have ql : ¬ len = 0 := fun z => q (hl.mp z)
    rcases hk with ⟨rfl, rfl, rfl⟩ | ⟨rfl, rfl, rfl⟩ | ⟨rfl, rfl, rfl⟩ <;> simp [q, ql] <;> decide
theorem own_ex20 {k3 rr te he ex raw : Int32} {len : Nat} (hk : (k3 = 0 ∧ rr = 0 ∧ te = 0) ∨ (k3 = 1 ∧ rr = 1 ∧ te = 0) ∨ (k3 = 2 ∧ rr = 1 ∧ te = 1)) (hl : len = 0 ↔ raw &&& 3 = 0) (hh : he = (if (raw &&& (3 : Int32)) = (0 : Int32) then (1 : Int32) else (0 : Int32))) (hx : ex = (if k3 = (0 : Int32) then (if he = (0 : Int32) then (1 : Int32) else (0 : Int32)) else (2 : Int32))) : own_span rr te 2 0 len = ex := by
  subst hx hh
  unfold own_span
  by_cases q : raw &&& 3 = 0
  · have ql := hl.mpr q
    rcases hk with ⟨rfl, rfl, rfl⟩ | ⟨rfl, rfl, rfl⟩ | ⟨rfl, rfl, rfl⟩ <;> simp [q, ql] <;> decide
  · have ql : ¬ len = 0 := fun z => q (hl.mp z)
    rcases hk with ⟨rfl, rfl, rfl⟩ | ⟨rfl, rfl, rfl⟩ | ⟨rfl, rfl, rfl⟩ <;> simp [q, ql] <;> decide
theorem own_ex21 {k3 rr te he ex raw : Int32} {len : Nat} (hk : (k3 = 0 ∧ rr = 0 ∧ te = 0) ∨ (k3 = 1 ∧ rr = 1 ∧ te = 0) ∨ (k3 = 2 ∧ rr = 1 ∧ te = 1)) (hl : len = 0 ↔ raw &&& 3 = 0) (hh : he = (if (raw &&& (3 : Int32)) = (0 : Int32) then (1 : Int32) else (0 : Int32))) (hx : ex = (if k3 = (0 : Int32) then (if he = (0 : Int32) then (1 : Int32) else (0 : Int32)) else (if k3 = (1 : Int32) then (if he = (0 : Int32) then (1 : Int32) else (0 : Int32)) else (1 : Int32)))) : own_span rr te 2 1 len = ex := by
  subst hx hh
  unfold own_span
  by_cases q : raw &&& 3 = 0
  · have ql := hl.mpr q
    rcases hk with ⟨rfl, rfl, rfl⟩ | ⟨rfl, rfl, rfl⟩ | ⟨rfl, rfl, rfl⟩ <;> simp [q, ql] <;> decide
  · have ql : ¬ len = 0 := fun z => q (hl.mp z)
    rcases hk with ⟨rfl, rfl, rfl⟩ | ⟨rfl, rfl, rfl⟩ | ⟨rfl, rfl, rfl⟩ <;> simp [q, ql] <;> decide
theorem own_ex30 {k3 rr te he ex raw : Int32} {len : Nat} (hk : (k3 = 0 ∧ rr = 0 ∧ te = 0) ∨ (k3 = 1 ∧ rr = 1 ∧ te = 0) ∨ (k3 = 2 ∧ rr = 1 ∧ te = 1)) (hl : len = 0 ↔ raw &&& 3 = 0) (hh : he = (if (raw &&& (3 : Int32)) = (0 : Int32) then (1 : Int32) else (0 : Int32))) (hx : ex = (if k3 = (0 : Int32) then (if he = (0 : Int32) then (1 : Int32) else (0 : Int32)) else (3 : Int32))) : own_span rr te 3 0 len = ex := by
  subst hx hh
  unfold own_span
  by_cases q : raw &&& 3 = 0
  · have ql := hl.mpr q
    rcases hk with ⟨rfl, rfl, rfl⟩ | ⟨rfl, rfl, rfl⟩ | ⟨rfl, rfl, rfl⟩ <;> simp [q, ql] <;> decide
  · have ql : ¬ len = 0 := fun z => q (hl.mp z)
    rcases hk with ⟨rfl, rfl, rfl⟩ | ⟨rfl, rfl, rfl⟩ | ⟨rfl, rfl, rfl⟩ <;> simp [q, ql] <;> decide
theorem own_ex31 {k3 rr te he ex raw : Int32} {len : Nat} (hk : (k3 = 0 ∧ rr = 0 ∧ te = 0) ∨ (k3 = 1 ∧ rr = 1 ∧ te = 0) ∨ (k3 = 2 ∧ rr = 1 ∧ te = 1)) (hl : len = 0 ↔ raw &&& 3 = 0) (hh : he = (if (raw &&& (3 : Int32)) = (0 : Int32) then (1 : Int32) else (0 : Int32))) (hx : ex = (if k3 = (0 : Int32) then (if he = (0 : Int32) then (1 : Int32) else (0 : Int32)) else (2 : Int32))) : own_span rr te 3 1 len = ex := by
  subst hx hh
  unfold own_span
  by_cases q : raw &&& 3 = 0
  · have ql := hl.mpr q
    rcases hk with ⟨rfl, rfl, rfl⟩ | ⟨rfl, rfl, rfl⟩ | ⟨rfl, rfl, rfl⟩ <;> simp [q, ql] <;> decide
  · have ql : ¬ len = 0 := fun z => q (hl.mp z)
    rcases hk with ⟨rfl, rfl, rfl⟩ | ⟨rfl, rfl, rfl⟩ | ⟨rfl, rfl, rfl⟩ <;> simp [q, ql] <;> decide
theorem own_ex32 {k3 rr te he ex raw : Int32} {len : Nat} (hk : (k3 = 0 ∧ rr = 0 ∧ te = 0) ∨ (k3 = 1 ∧ rr = 1 ∧ te = 0) ∨ (k3 = 2 ∧ rr = 1 ∧ te = 1)) (hl : len = 0 ↔ raw &&& 3 = 0) (hh : he = (if (raw &&& (3 : Int32)) = (0 : Int32) then (1 : Int32) else (0 : Int32))) (hx : ex = (if k3 = (0 : Int32) then (if he = (0 : Int32) then (1 : Int32) else (0 : Int32)) else (if k3 = (1 : Int32) then (if he = (0 : Int32) then (1 : Int32) else (0 : Int32)) else (1 : Int32)))) : own_span rr te 3 2 len = ex := by
  subst hx hh
  unfold own_span
  by_cases q : raw &&& 3 = 0
  · have ql := hl.mpr q
    rcases hk with ⟨rfl, rfl, rfl⟩ | ⟨rfl, rfl, rfl⟩ | ⟨rfl, rfl, rfl⟩ <;> simp [q, ql] <;> decide
  · have ql : ¬ len = 0 := fun z => q (hl.mp z)
    rcases hk with ⟨rfl, rfl, rfl⟩ | ⟨rfl, rfl, rfl⟩ | ⟨rfl, rfl, rfl⟩ <;> simp [q, ql] <;> decide
theorem own_ex40 {k3 rr te he ex raw : Int32} {len : Nat} (hk : (k3 = 0 ∧ rr = 0 ∧ te = 0) ∨ (k3 = 1 ∧ rr = 1 ∧ te = 0) ∨ (k3 = 2 ∧ rr = 1 ∧ te = 1)) (hl : len = 0 ↔ raw &&& 3 = 0) (hh : he = (if (raw &&& (3 : Int32)) = (0 : Int32) then (1 : Int32) else (0 : Int32))) (hx : ex = (if k3 = (0 : Int32) then (if he = (0 : Int32) then (1 : Int32) else (0 : Int32)) else (4 : Int32))) : own_span rr te 4 0 len = ex := by
  subst hx hh
  unfold own_span
  by_cases q : raw &&& 3 = 0
  · have ql := hl.mpr q
    rcases hk with ⟨rfl, rfl, rfl⟩ | ⟨rfl, rfl, rfl⟩ | ⟨rfl, rfl, rfl⟩ <;> simp [q, ql] <;> decide
  · have ql : ¬ len = 0 := fun z => q (hl.mp z)
    rcases hk with ⟨rfl, rfl, rfl⟩ | ⟨rfl, rfl, rfl⟩ | ⟨rfl, rfl, rfl⟩ <;> simp [q, ql] <;> decide
theorem own_ex41 {k3 rr te he ex raw : Int32} {len : Nat} (hk : (k3 = 0 ∧ rr = 0 ∧ te = 0) ∨ (k3 = 1 ∧ rr = 1 ∧ te = 0) ∨ (k3 = 2 ∧ rr = 1 ∧ te = 1)) (hl : len = 0 ↔ raw &&& 3 = 0) (hh : he = (if (raw &&& (3 : Int32)) = (0 : Int32) then (1 : Int32) else (0 : Int32))) (hx : ex = (if k3 = (0 : Int32) then (if he = (0 : Int32) then (1 : Int32) else (0 : Int32)) else (3 : Int32))) : own_span rr te 4 1 len = ex := by
  subst hx hh
  unfold own_span
  by_cases q : raw &&& 3 = 0
  · have ql := hl.mpr q
    rcases hk with ⟨rfl, rfl, rfl⟩ | ⟨rfl, rfl, rfl⟩ | ⟨rfl, rfl, rfl⟩ <;> simp [q, ql] <;> decide
  · have ql : ¬ len = 0 := fun z => q (hl.mp z)
    rcases hk with ⟨rfl, rfl, rfl⟩ | ⟨rfl, rfl, rfl⟩ | ⟨rfl, rfl, rfl⟩ <;> simp [q, ql] <;> decide
theorem own_ex42 {k3 rr te he ex raw : Int32} {len : Nat} (hk : (k3 = 0 ∧ rr = 0 ∧ te = 0) ∨ (k3 = 1 ∧ rr = 1 ∧ te = 0) ∨ (k3 = 2 ∧ rr = 1 ∧ te = 1)) (hl : len = 0 ↔ raw &&& 3 = 0) (hh : he = (if (raw &&& (3 : Int32)) = (0 : Int32) then (1 : Int32) else (0 : Int32))) (hx : ex = (if k3 = (0 : Int32) then (if he = (0 : Int32) then (1 : Int32) else (0 : Int32)) else (2 : Int32))) : own_span rr te 4 2 len = ex := by
  subst hx hh
  unfold own_span
  by_cases q : raw &&& 3 = 0
  · have ql := hl.mpr q
    rcases hk with ⟨rfl, rfl, rfl⟩ | ⟨rfl, rfl, rfl⟩ | ⟨rfl, rfl, rfl⟩ <;> simp [q, ql] <;> decide
  · have ql : ¬ len = 0 := fun z => q (hl.mp z)
    rcases hk with ⟨rfl, rfl, rfl⟩ | ⟨rfl, rfl, rfl⟩ | ⟨rfl, rfl, rfl⟩ <;> simp [q, ql] <;> decide
theorem own_ex43 {k3 rr te he ex raw : Int32} {len : Nat} (hk : (k3 = 0 ∧ rr = 0 ∧ te = 0) ∨ (k3 = 1 ∧ rr = 1 ∧ te = 0) ∨ (k3 = 2 ∧ rr = 1 ∧ te = 1)) (hl : len = 0 ↔ raw &&& 3 = 0) (hh : he = (if (raw &&& (3 : Int32)) = (0 : Int32) then (1 : Int32) else (0 : Int32))) (hx : ex = (if k3 = (0 : Int32) then (if he = (0 : Int32) then (1 : Int32) else (0 : Int32)) else (if k3 = (1 : Int32) then (if he = (0 : Int32) then (1 : Int32) else (0 : Int32)) else (1 : Int32)))) : own_span rr te 4 3 len = ex := by
  subst hx hh
  unfold own_span
  by_cases q : raw &&& 3 = 0
  · have ql := hl.mpr q
    rcases hk with ⟨rfl, rfl, rfl⟩ | ⟨rfl, rfl, rfl⟩ | ⟨rfl, rfl, rfl⟩ <;> simp [q, ql] <;> decide
  · have ql : ¬ len = 0 := fun z => q (hl.mp z)
    rcases hk with ⟨rfl, rfl, rfl⟩ | ⟨rfl, rfl, rfl⟩ | ⟨rfl, rfl, rfl⟩ <;> simp [q, ql] <;> decide

theorem pd_oIcLjavaslangsStringe : parseMethodDescriptor "(I)Ljava/lang/String;" = some ⟨[.int], some (.object "java/lang/String")⟩ := by decide +kernel
theorem pd_oaLjavaslangsStringeIcI : parseMethodDescriptor "([Ljava/lang/String;I)I" = some ⟨[(.array (.object "java/lang/String")), .int], some .int⟩ := by decide +kernel
theorem ef_rm0 (m : MethodId) (x0 : Int32) (x1 : Int32) (x2 : Int32) (x3 : Int32) (x4 : Int32) (x5 : Int32) : entryFrame m #[(.int x0), (.int x1), (.int x2), (.int x3), (.int x4), (.int x5)] maxLocals = mkF m 0 #[.val (.int x0), .val (.int x1), .val (.int x2), .val (.int x3), .val (.int x4), .val (.int x5), .unset, .unset, .unset, .unset, .unset, .unset, .unset, .unset, .unset, .unset, .unset, .unset, .unset, .unset] [] := by first | (simp [entryFrame, mkF, argsToLocals, Value.category, maxLocals]; done) | rfl
set_option maxRecDepth 65536 in
set_option maxHeartbeats 40000000 in
theorem rm0 (l : Launch) (Z : State) (a0 : Array Value) (hw : ∀ d ∈ tables_1, d.before a0 Z = true) (ws : List Jvm.Cond) (p0 p1 p2 p3 p4 p5 : Int32) (u0 u1 u2 : Addr) (G1 : Int32) (h0 : Heap) (n0 : Nat) (Z0 : n0 ≤ h0.size) (su0 : Sta Z Z.heap "com/example/libroute/libroute/pattern/ParameterKind" "SEGMENT" "Lcom/example/libroute/libroute/pattern/ParameterKind;" (.ref u0)) (xu0 : Exa Z Z.heap u0 "com/example/libroute/libroute/pattern/ParameterKind") (fu0 : Fld Z Z.heap u0 "com/example/libroute/libroute/pattern/ParameterKind" "rest" "Z" (.int (0 : Int32))) (gu0 : Fld Z Z.heap u0 "com/example/libroute/libroute/pattern/ParameterKind" "takesEmpty" "Z" (.int (0 : Int32))) (su1 : Sta Z Z.heap "com/example/libroute/libroute/pattern/ParameterKind" "NONEMPTY_REST" "Lcom/example/libroute/libroute/pattern/ParameterKind;" (.ref u1)) (xu1 : Exa Z Z.heap u1 "com/example/libroute/libroute/pattern/ParameterKind") (fu1 : Fld Z Z.heap u1 "com/example/libroute/libroute/pattern/ParameterKind" "rest" "Z" (.int (1 : Int32))) (gu1 : Fld Z Z.heap u1 "com/example/libroute/libroute/pattern/ParameterKind" "takesEmpty" "Z" (.int (0 : Int32))) (su2 : Sta Z Z.heap "com/example/libroute/libroute/pattern/ParameterKind" "REST" "Lcom/example/libroute/libroute/pattern/ParameterKind;" (.ref u2)) (xu2 : Exa Z Z.heap u2 "com/example/libroute/libroute/pattern/ParameterKind") (fu2 : Fld Z Z.heap u2 "com/example/libroute/libroute/pattern/ParameterKind" "rest" "Z" (.int (1 : Int32))) (gu2 : Fld Z Z.heap u2 "com/example/libroute/libroute/pattern/ParameterKind" "takesEmpty" "Z" (.int (1 : Int32))) (O2 : Sta Z Z.heap "java/lang/String" "COMPACT_STRINGS" "Z" (.int G1)) (P5 : ¬ G1 = 0) (X00 : Old Z n0 h0) :
    MetFree l x (head1 (Jvm.Cond.code x code maxLocals ret :: ws) room_1) (fun aa U => aa = #[(.int p0), (.int p1), (.int p2), (.int p3), (.int p4), (.int p5)] ∧ Z.Warmed39 U.vm ∧ U.heap = h0 ∧ CHv Z EL U.vm h0) (fun _ _ _ _ _ => True) (fun _ U o U' => ∃ v L, o = .returned v ∧ Q0 Z  h0 n0 v U'.heap L ∧ CHr Z EL U.vm U.heap U'.vm U'.heap ∧ ReturnedEndW U o U' L room_1.cells room_1.slots) := by
  refine MetFree.of_bodySF (plainFor_of_name pn_com_example_libroute_libroute_pattern_ParameterKindSpanPinLaw) hisR ?_
  intro p e s m args below meth c s₁ Bd hml0 hP hK
  obtain ⟨rfl, hZ, hh, hCH⟩ := hP
  have hx := Bd.exec
  have hby := Bd.bytes
  have hml : c.maxLocals = 20 := hml0
  have hown : s.vm.findClass "com/example/libroute/libroute/pattern/ParameterKindSpanPinLaw" = some m.cls := findClass_of_methodNamed Bd.named
  have hnm := (name_of_methodNamed Bd.named Bd.method).1
  have X0 : Stand p l e room_1 s m #[(.int p0), (.int p1), (.int p2), (.int p3), (.int p4), (.int p5)] below meth c s₁ [] 0 0 := Stand.of_body Bd
  have e0 : s₁.heap = h0 := by rw [← hh, Bd.state]; rfl
  have N0 := Fr.nil n0
  have K0 := Keep.refl h0 []
  obtain ⟨S0, hS0⟩ : ∃ z, z = s₁.setTop (entryFrame m #[(.int p0), (.int p1), (.int p2), (.int p3), (.int p4), (.int p5)] maxLocals) := ⟨_, rfl⟩
  rw [← hS0]
  have c0 : Steps p.tables e below S0 (s₁.setTop (mkF m 0 #[.val (.int p0), .val (.int p1), .val (.int p2), .val (.int p3), .val (.int p4), .val (.int p5), .unset, .unset, .unset, .unset, .unset, .unset, .unset, .unset, .unset, .unset, .unset, .unset, .unset, .unset] [])) := by
    rw [hS0]; exact castTop (ef_rm0 m p0 p1 p2 p3 p4 p5) (Steps.refl _)
  have X0 : Stand p l e room_1 (s.setVm s.vm) m #[(.int p0), (.int p1), (.int p2), (.int p3), (.int p4), (.int p5)] below meth c s₁ [] 0 0 := X0
  have hS0 : s.Since s.vm 0 := own_since s
  have R0 : CHr Z EL s.vm h0 s.vm h0 := CHr.refl hCH
  have hEL := own_EW hw
  have hwS := own_strw hw
  have c1 : Steps p.tables e below S0 (s₁.setTop (mkF m 8 #[.val (.int p0), .val (.int p1), .val (.int p2), .val (.int p3), .val (.int p4), .val (.int p5), .val (.int ((p0 &&& (2147483647 : Int32)) % (3 : Int32))), .unset, .unset, .unset, .unset, .unset, .unset, .unset, .unset, .unset, .unset, .unset, .unset, .unset] [])) := c0.trans (by
    show Steps p.tables e below (s₁.setTop (mkF m 0 #[.val (.int p0), .val (.int p1), .val (.int p2), .val (.int p3), .val (.int p4), .val (.int p5), .unset, .unset, .unset, .unset, .unset, .unset, .unset, .unset, .unset, .unset, .unset, .unset, .unset, .unset] [])) _
    refine XS.iloadN X0.here hx rfl (hb hby at_0) rfl ?_
    show Steps p.tables e below (s₁.setTop (mkF m 1 #[.val (.int p0), .val (.int p1), .val (.int p2), .val (.int p3), .val (.int p4), .val (.int p5), .unset, .unset, .unset, .unset, .unset, .unset, .unset, .unset, .unset, .unset, .unset, .unset, .unset, .unset] [(.int p0)])) _
    refine X0.ldcInt hx hown (mvT hZ (hw _ (List.mem_of_getElem? (i := 0) rfl))) (g := (mkF m 1 #[.val (.int p0), .val (.int p1), .val (.int p2), .val (.int p3), .val (.int p4), .val (.int p5), .unset, .unset, .unset, .unset, .unset, .unset, .unset, .unset, .unset, .unset, .unset, .unset, .unset, .unset] [(.int p0)])) rfl (hb hby at_1) _ ?_
    refine XS.iand X0.here hx rfl (hb hby at_3) rfl ?_
    refine XS.iconst X0.here hx rfl (hb hby at_4) ?_
    show Steps p.tables e below (s₁.setTop (mkF m 5 #[.val (.int p0), .val (.int p1), .val (.int p2), .val (.int p3), .val (.int p4), .val (.int p5), .unset, .unset, .unset, .unset, .unset, .unset, .unset, .unset, .unset, .unset, .unset, .unset, .unset, .unset] [(.int (3 : Int32)), (.int (p0 &&& (2147483647 : Int32)))])) _
    refine iremM (g := (mkF m 5 #[.val (.int p0), .val (.int p1), .val (.int p2), .val (.int p3), .val (.int p4), .val (.int p5), .unset, .unset, .unset, .unset, .unset, .unset, .unset, .unset, .unset, .unset, .unset, .unset, .unset, .unset] [(.int (3 : Int32)), (.int (p0 &&& (2147483647 : Int32)))])) X0 hx rfl (hb hby at_5) rfl (by decide) ?_
    refine XS.istore X0.here hx rfl (hb hby at_6) rfl (l' := #[.val (.int p0), .val (.int p1), .val (.int p2), .val (.int p3), .val (.int p4), .val (.int p5), .val (.int ((p0 &&& (2147483647 : Int32)) % (3 : Int32))), .unset, .unset, .unset, .unset, .unset, .unset, .unset, .unset, .unset, .unset, .unset, .unset, .unset]) rfl ?_
    exact Steps.refl _)
  obtain ⟨ka, hka, eka⟩ := own_rem31 p0 (m := 3) (by decide) (by decide)
  obtain ⟨k3, hk3, c2⟩ : ∃ z : Int32, z = ((p0 &&& (2147483647 : Int32)) % (3 : Int32)) ∧ Steps p.tables e below S0 (s₁.setTop (mkF m 8 #[.val (.int p0), .val (.int p1), .val (.int p2), .val (.int p3), .val (.int p4), .val (.int p5), .val (.int z), .unset, .unset, .unset, .unset, .unset, .unset, .unset, .unset, .unset, .unset, .unset, .unset, .unset] [])) := ⟨_, rfl, c1⟩
  have hk3 : k3 = 0 ∨ k3 = 1 ∨ k3 = 2 := by
    have e : k3 = Int32.ofNat ka := hk3.trans eka
    have q : ka = 0 ∨ ka = 1 ∨ ka = 2 := by omega
    rcases q with rfl | rfl | rfl
    · exact Or.inl e
    · exact Or.inr (Or.inl e)
    · exact Or.inr (Or.inr e)
  have c3 : Steps p.tables e below S0 (s₁.setTop (mkF m 10 #[.val (.int p0), .val (.int p1), .val (.int p2), .val (.int p3), .val (.int p4), .val (.int p5), .val (.int k3), .unset, .unset, .unset, .unset, .unset, .unset, .unset, .unset, .unset, .unset, .unset, .unset, .unset] [(.int k3)])) := c2.trans (by
    show Steps p.tables e below (s₁.setTop (mkF m 8 #[.val (.int p0), .val (.int p1), .val (.int p2), .val (.int p3), .val (.int p4), .val (.int p5), .val (.int k3), .unset, .unset, .unset, .unset, .unset, .unset, .unset, .unset, .unset, .unset, .unset, .unset, .unset] [])) _
    refine XS.iload X0.here hx rfl (hb hby at_8) rfl ?_
    exact Steps.refl _)
  obtain ⟨pk, T5, l5, hpk, N5, X5, e5, c5⟩ : ∃ (pk : Addr) (T : State) (locs : List Loc), pk = (if k3 = (0 : Int32) then u0 else (if k3 = (1 : Int32) then u1 else u2)) ∧ Fr n0 locs ∧ Stand p l e room_1 (s.setVm s.vm) m #[(.int p0), (.int p1), (.int p2), (.int p3), (.int p4), (.int p5)] below meth c T locs 0 0 ∧ T.heap = h0 ∧ Steps p.tables e below S0 (T.setTop (mkF m 40 #[.val (.int p0), .val (.int p1), .val (.int p2), .val (.int p3), .val (.int p4), .val (.int p5), .val (.int k3), .val (.ref pk), .unset, .unset, .unset, .unset, .unset, .unset, .unset, .unset, .unset, .unset, .unset, .unset] [])) := by
    by_cases hq6 : k3 = (0 : Int32)
    · have c7 : Steps p.tables e below S0 (s₁.setTop (mkF m 13 #[.val (.int p0), .val (.int p1), .val (.int p2), .val (.int p3), .val (.int p4), .val (.int p5), .val (.int k3), .unset, .unset, .unset, .unset, .unset, .unset, .unset, .unset, .unset, .unset, .unset, .unset, .unset] [])) := c3.trans (by
        show Steps p.tables e below (s₁.setTop (mkF m 10 #[.val (.int p0), .val (.int p1), .val (.int p2), .val (.int p3), .val (.int p4), .val (.int p5), .val (.int k3), .unset, .unset, .unset, .unset, .unset, .unset, .unset, .unset, .unset, .unset, .unset, .unset, .unset] [(.int k3)])) _
        refine XS.ifNo X0.here hx rfl (hb hby at_10) rfl ((if0 _ _).trans (teq hq6).2) ?_
        exact Steps.refl _)
      obtain ⟨T8, X8, e8, st8⟩ := getS2 X0 hx hZ hown (host := "") (Or.inl (hw _ (List.mem_of_getElem? (i := 1) rfl))) Via.refl e0 (su0.ext X00.2) (g := (mkF m 13 #[.val (.int p0), .val (.int p1), .val (.int p2), .val (.int p3), .val (.int p4), .val (.int p5), .val (.int k3), .unset, .unset, .unset, .unset, .unset, .unset, .unset, .unset, .unset, .unset, .unset, .unset, .unset] [])) rfl (hb hby at_13)
      have c9 : Steps p.tables e below S0 (T8.setTop (mkF m 16 #[.val (.int p0), .val (.int p1), .val (.int p2), .val (.int p3), .val (.int p4), .val (.int p5), .val (.int k3), .unset, .unset, .unset, .unset, .unset, .unset, .unset, .unset, .unset, .unset, .unset, .unset, .unset] [(.ref u0)])) := c7.trans (st8 _ (Steps.refl _))
      have c10 : Steps p.tables e below S0 (T8.setTop (mkF m 40 #[.val (.int p0), .val (.int p1), .val (.int p2), .val (.int p3), .val (.int p4), .val (.int p5), .val (.int k3), .val (.ref u0), .unset, .unset, .unset, .unset, .unset, .unset, .unset, .unset, .unset, .unset, .unset, .unset] [])) := c9.trans (by
        show Steps p.tables e below (T8.setTop (mkF m 16 #[.val (.int p0), .val (.int p1), .val (.int p2), .val (.int p3), .val (.int p4), .val (.int p5), .val (.int k3), .unset, .unset, .unset, .unset, .unset, .unset, .unset, .unset, .unset, .unset, .unset, .unset, .unset] [(.ref u0)])) _
        refine XS.astore X8.here hx rfl (hb hby at_16) rfl rfl (l' := #[.val (.int p0), .val (.int p1), .val (.int p2), .val (.int p3), .val (.int p4), .val (.int p5), .val (.int k3), .val (.ref u0), .unset, .unset, .unset, .unset, .unset, .unset, .unset, .unset, .unset, .unset, .unset, .unset]) rfl ?_
        refine XS.goto X8.here hx rfl (pc0 := 18) (pc' := 40) rfl (hb hby at_18) (by decide) (by decide) ?_
        exact Steps.refl _)
      exact ⟨_, T8, _, (by rw [if_pos hq6]), N0, X8, e8, c10⟩
    · have c11 : Steps p.tables e below S0 (s₁.setTop (mkF m 24 #[.val (.int p0), .val (.int p1), .val (.int p2), .val (.int p3), .val (.int p4), .val (.int p5), .val (.int k3), .unset, .unset, .unset, .unset, .unset, .unset, .unset, .unset, .unset, .unset, .unset, .unset, .unset] [(.int (1 : Int32)), (.int k3)])) := c3.trans (by
        show Steps p.tables e below (s₁.setTop (mkF m 10 #[.val (.int p0), .val (.int p1), .val (.int p2), .val (.int p3), .val (.int p4), .val (.int p5), .val (.int k3), .unset, .unset, .unset, .unset, .unset, .unset, .unset, .unset, .unset, .unset, .unset, .unset, .unset] [(.int k3)])) _
        refine XS.ifYes X0.here hx rfl (pc0 := 10) (pc' := 21) rfl (hb hby at_10) rfl ((if0 _ _).trans (feq hq6).2) (by decide) (by decide) ?_
        refine XS.iload X0.here hx rfl (hb hby at_21) rfl ?_
        refine XS.iconst X0.here hx rfl (hb hby at_23) ?_
        exact Steps.refl _)
      by_cases hq12 : k3 = (1 : Int32)
      · have c13 : Steps p.tables e below S0 (s₁.setTop (mkF m 27 #[.val (.int p0), .val (.int p1), .val (.int p2), .val (.int p3), .val (.int p4), .val (.int p5), .val (.int k3), .unset, .unset, .unset, .unset, .unset, .unset, .unset, .unset, .unset, .unset, .unset, .unset, .unset] [])) := c11.trans (by
          show Steps p.tables e below (s₁.setTop (mkF m 24 #[.val (.int p0), .val (.int p1), .val (.int p2), .val (.int p3), .val (.int p4), .val (.int p5), .val (.int k3), .unset, .unset, .unset, .unset, .unset, .unset, .unset, .unset, .unset, .unset, .unset, .unset, .unset] [(.int (1 : Int32)), (.int k3)])) _
          refine XS.icmpNo X0.here hx rfl (hb hby at_24) rfl (teq hq12).2 ?_
          exact Steps.refl _)
        obtain ⟨T14, X14, e14, st14⟩ := getS2 X0 hx hZ hown (host := "") (Or.inl (hw _ (List.mem_of_getElem? (i := 69) rfl))) Via.refl e0 (su1.ext X00.2) (g := (mkF m 27 #[.val (.int p0), .val (.int p1), .val (.int p2), .val (.int p3), .val (.int p4), .val (.int p5), .val (.int k3), .unset, .unset, .unset, .unset, .unset, .unset, .unset, .unset, .unset, .unset, .unset, .unset, .unset] [])) rfl (hb hby at_27)
        have c15 : Steps p.tables e below S0 (T14.setTop (mkF m 30 #[.val (.int p0), .val (.int p1), .val (.int p2), .val (.int p3), .val (.int p4), .val (.int p5), .val (.int k3), .unset, .unset, .unset, .unset, .unset, .unset, .unset, .unset, .unset, .unset, .unset, .unset, .unset] [(.ref u1)])) := c13.trans (st14 _ (Steps.refl _))
        have c16 : Steps p.tables e below S0 (T14.setTop (mkF m 40 #[.val (.int p0), .val (.int p1), .val (.int p2), .val (.int p3), .val (.int p4), .val (.int p5), .val (.int k3), .val (.ref u1), .unset, .unset, .unset, .unset, .unset, .unset, .unset, .unset, .unset, .unset, .unset, .unset] [])) := c15.trans (by
          show Steps p.tables e below (T14.setTop (mkF m 30 #[.val (.int p0), .val (.int p1), .val (.int p2), .val (.int p3), .val (.int p4), .val (.int p5), .val (.int k3), .unset, .unset, .unset, .unset, .unset, .unset, .unset, .unset, .unset, .unset, .unset, .unset, .unset] [(.ref u1)])) _
          refine XS.astore X14.here hx rfl (hb hby at_30) rfl rfl (l' := #[.val (.int p0), .val (.int p1), .val (.int p2), .val (.int p3), .val (.int p4), .val (.int p5), .val (.int k3), .val (.ref u1), .unset, .unset, .unset, .unset, .unset, .unset, .unset, .unset, .unset, .unset, .unset, .unset]) rfl ?_
          refine XS.goto X14.here hx rfl (pc0 := 32) (pc' := 40) rfl (hb hby at_32) (by decide) (by decide) ?_
          exact Steps.refl _)
        exact ⟨_, T14, _, (by rw [if_neg hq6, if_pos hq12]), N0, X14, e14, c16⟩
      · have c17 : Steps p.tables e below S0 (s₁.setTop (mkF m 35 #[.val (.int p0), .val (.int p1), .val (.int p2), .val (.int p3), .val (.int p4), .val (.int p5), .val (.int k3), .unset, .unset, .unset, .unset, .unset, .unset, .unset, .unset, .unset, .unset, .unset, .unset, .unset] [])) := c11.trans (by
          show Steps p.tables e below (s₁.setTop (mkF m 24 #[.val (.int p0), .val (.int p1), .val (.int p2), .val (.int p3), .val (.int p4), .val (.int p5), .val (.int k3), .unset, .unset, .unset, .unset, .unset, .unset, .unset, .unset, .unset, .unset, .unset, .unset, .unset] [(.int (1 : Int32)), (.int k3)])) _
          refine XS.icmpYes X0.here hx rfl (pc0 := 24) (pc' := 35) rfl (hb hby at_24) rfl (feq hq12).2 (by decide) (by decide) ?_
          exact Steps.refl _)
        obtain ⟨T18, X18, e18, st18⟩ := getS2 X0 hx hZ hown (host := "") (Or.inl (hw _ (List.mem_of_getElem? (i := 73) rfl))) Via.refl e0 (su2.ext X00.2) (g := (mkF m 35 #[.val (.int p0), .val (.int p1), .val (.int p2), .val (.int p3), .val (.int p4), .val (.int p5), .val (.int k3), .unset, .unset, .unset, .unset, .unset, .unset, .unset, .unset, .unset, .unset, .unset, .unset, .unset] [])) rfl (hb hby at_35)
        have c19 : Steps p.tables e below S0 (T18.setTop (mkF m 38 #[.val (.int p0), .val (.int p1), .val (.int p2), .val (.int p3), .val (.int p4), .val (.int p5), .val (.int k3), .unset, .unset, .unset, .unset, .unset, .unset, .unset, .unset, .unset, .unset, .unset, .unset, .unset] [(.ref u2)])) := c17.trans (st18 _ (Steps.refl _))
        have c20 : Steps p.tables e below S0 (T18.setTop (mkF m 40 #[.val (.int p0), .val (.int p1), .val (.int p2), .val (.int p3), .val (.int p4), .val (.int p5), .val (.int k3), .val (.ref u2), .unset, .unset, .unset, .unset, .unset, .unset, .unset, .unset, .unset, .unset, .unset, .unset] [])) := c19.trans (by
          show Steps p.tables e below (T18.setTop (mkF m 38 #[.val (.int p0), .val (.int p1), .val (.int p2), .val (.int p3), .val (.int p4), .val (.int p5), .val (.int k3), .unset, .unset, .unset, .unset, .unset, .unset, .unset, .unset, .unset, .unset, .unset, .unset, .unset] [(.ref u2)])) _
          refine XS.astore X18.here hx rfl (hb hby at_38) rfl rfl (l' := #[.val (.int p0), .val (.int p1), .val (.int p2), .val (.int p3), .val (.int p4), .val (.int p5), .val (.int k3), .val (.ref u2), .unset, .unset, .unset, .unset, .unset, .unset, .unset, .unset, .unset, .unset, .unset, .unset]) rfl ?_
          exact Steps.refl _)
        exact ⟨_, T18, _, (by rw [if_neg hq6, if_neg hq12]), N0, X18, e18, c20⟩
  obtain ⟨rr, te, Fp, Gp, xpk, hkk⟩ := own_kind (PKD := "com/example/libroute/libroute/pattern/ParameterKind") hk3 hpk xu0 xu1 xu2 fu0 gu0 fu1 gu1 fu2 gu2
  have c21 : Steps p.tables e below S0 (T5.setTop (mkF m 47 #[.val (.int p0), .val (.int p1), .val (.int p2), .val (.int p3), .val (.int p4), .val (.int p5), .val (.int k3), .val (.ref pk), .val (.int ((1 : Int32) + (p1 &&& (3 : Int32)))), .unset, .unset, .unset, .unset, .unset, .unset, .unset, .unset, .unset, .unset, .unset] [])) := c5.trans (by
    show Steps p.tables e below (T5.setTop (mkF m 40 #[.val (.int p0), .val (.int p1), .val (.int p2), .val (.int p3), .val (.int p4), .val (.int p5), .val (.int k3), .val (.ref pk), .unset, .unset, .unset, .unset, .unset, .unset, .unset, .unset, .unset, .unset, .unset, .unset] [])) _
    refine XS.iconst X5.here hx rfl (hb hby at_40) ?_
    refine XS.iloadN X5.here hx rfl (hb hby at_41) rfl ?_
    refine XS.iconst X5.here hx rfl (hb hby at_42) ?_
    refine XS.iand X5.here hx rfl (hb hby at_43) rfl ?_
    show Steps p.tables e below (T5.setTop (mkF m 44 #[.val (.int p0), .val (.int p1), .val (.int p2), .val (.int p3), .val (.int p4), .val (.int p5), .val (.int k3), .val (.ref pk), .unset, .unset, .unset, .unset, .unset, .unset, .unset, .unset, .unset, .unset, .unset, .unset] [(.int (p1 &&& (3 : Int32))), (.int (1 : Int32))])) _
    refine XS.iadd X5.here hx rfl (hb hby at_44) rfl ?_
    refine XS.istore X5.here hx rfl (hb hby at_45) rfl (l' := #[.val (.int p0), .val (.int p1), .val (.int p2), .val (.int p3), .val (.int p4), .val (.int p5), .val (.int k3), .val (.ref pk), .val (.int ((1 : Int32) + (p1 &&& (3 : Int32)))), .unset, .unset, .unset, .unset, .unset, .unset, .unset, .unset, .unset, .unset, .unset]) rfl ?_
    exact Steps.refl _)
  obtain ⟨nn, hnn, c22⟩ : ∃ z : Int32, z = ((1 : Int32) + (p1 &&& (3 : Int32))) ∧ Steps p.tables e below S0 (T5.setTop (mkF m 47 #[.val (.int p0), .val (.int p1), .val (.int p2), .val (.int p3), .val (.int p4), .val (.int p5), .val (.int k3), .val (.ref pk), .val (.int z), .unset, .unset, .unset, .unset, .unset, .unset, .unset, .unset, .unset, .unset, .unset] [])) := ⟨_, rfl, c21⟩
  have hn4 : nn = 1 ∨ nn = 2 ∨ nn = 3 ∨ nn = 4 := by
    rw [hnn]; rcases own_m4 p1 with q | q | q | q <;> rw [q] <;> decide
  have c23 : Steps p.tables e below S0 (T5.setTop (mkF m 55 #[.val (.int p0), .val (.int p1), .val (.int p2), .val (.int p3), .val (.int p4), .val (.int p5), .val (.int k3), .val (.ref pk), .val (.int nn), .val (.int (((p1.toUInt32 >>> ((2 : Int32) &&& 31).toUInt32).toInt32) % nn)), .unset, .unset, .unset, .unset, .unset, .unset, .unset, .unset, .unset, .unset] [])) := c22.trans (by
    show Steps p.tables e below (T5.setTop (mkF m 47 #[.val (.int p0), .val (.int p1), .val (.int p2), .val (.int p3), .val (.int p4), .val (.int p5), .val (.int k3), .val (.ref pk), .val (.int nn), .unset, .unset, .unset, .unset, .unset, .unset, .unset, .unset, .unset, .unset, .unset] [])) _
    refine XS.iloadN X5.here hx rfl (hb hby at_47) rfl ?_
    refine XS.iconst X5.here hx rfl (hb hby at_48) ?_
    refine XS.iushr X5.here hx rfl (hb hby at_49) rfl ?_
    refine XS.iload X5.here hx rfl (hb hby at_50) rfl ?_
    show Steps p.tables e below (T5.setTop (mkF m 52 #[.val (.int p0), .val (.int p1), .val (.int p2), .val (.int p3), .val (.int p4), .val (.int p5), .val (.int k3), .val (.ref pk), .val (.int nn), .unset, .unset, .unset, .unset, .unset, .unset, .unset, .unset, .unset, .unset, .unset] [(.int nn), (.int ((p1.toUInt32 >>> ((2 : Int32) &&& 31).toUInt32).toInt32))])) _
    refine iremM (g := (mkF m 52 #[.val (.int p0), .val (.int p1), .val (.int p2), .val (.int p3), .val (.int p4), .val (.int p5), .val (.int k3), .val (.ref pk), .val (.int nn), .unset, .unset, .unset, .unset, .unset, .unset, .unset, .unset, .unset, .unset, .unset] [(.int nn), (.int ((p1.toUInt32 >>> ((2 : Int32) &&& 31).toUInt32).toInt32))])) X5 hx rfl (hb hby at_52) rfl (by rcases hn4 with q | q | q | q <;> rw [q] <;> decide) ?_
    refine XS.istore X5.here hx rfl (hb hby at_53) rfl (l' := #[.val (.int p0), .val (.int p1), .val (.int p2), .val (.int p3), .val (.int p4), .val (.int p5), .val (.int k3), .val (.ref pk), .val (.int nn), .val (.int (((p1.toUInt32 >>> ((2 : Int32) &&& 31).toUInt32).toInt32) % nn)), .unset, .unset, .unset, .unset, .unset, .unset, .unset, .unset, .unset, .unset]) rfl ?_
    exact Steps.refl _)
  obtain ⟨ix, hix, c24⟩ : ∃ z : Int32, z = (((p1.toUInt32 >>> ((2 : Int32) &&& 31).toUInt32).toInt32) % nn) ∧ Steps p.tables e below S0 (T5.setTop (mkF m 55 #[.val (.int p0), .val (.int p1), .val (.int p2), .val (.int p3), .val (.int p4), .val (.int p5), .val (.int k3), .val (.ref pk), .val (.int nn), .val (.int z), .unset, .unset, .unset, .unset, .unset, .unset, .unset, .unset, .unset, .unset] [])) := ⟨_, rfl, c23⟩
  have hix2 := own_ix hn4 hix
  have c25 : Steps p.tables e below S0 (T5.setTop (mkF m 56 #[.val (.int p0), .val (.int p1), .val (.int p2), .val (.int p3), .val (.int p4), .val (.int p5), .val (.int k3), .val (.ref pk), .val (.int nn), .val (.int ix), .unset, .unset, .unset, .unset, .unset, .unset, .unset, .unset, .unset, .unset] [(.int p2)])) := c24.trans (by
    show Steps p.tables e below (T5.setTop (mkF m 55 #[.val (.int p0), .val (.int p1), .val (.int p2), .val (.int p3), .val (.int p4), .val (.int p5), .val (.int k3), .val (.ref pk), .val (.int nn), .val (.int ix), .unset, .unset, .unset, .unset, .unset, .unset, .unset, .unset, .unset, .unset] [])) _
    refine XS.iloadN X5.here hx rfl (hb hby at_55) rfl ?_
    exact Steps.refl _)
  obtain ⟨_, _, ⟨T26, L26, kk26, nn26⟩, -, Xx26, hSx26, hgx26, ⟨Lc26, hQ26, l26, y26, z26, r26⟩, st26⟩ := callSS X5 hx (y := (⟨"com/example/libroute/libroute/pattern/ParameterKindSpanPinLaw", "seg", "(I)Ljava/lang/String;"⟩ : MethodName)) hown (mvT hZ (hw _ (List.mem_of_getElem? (i := 4) rfl))) (mvT hZ (hw _ (List.mem_of_getElem? (i := 5) rfl))) (mvT hZ (hw _ (List.mem_of_getElem? (i := 6) rfl))) (mvT hZ (hw _ (List.mem_of_getElem? (i := 7) rfl))) (by decide) (backOfSH (W := 0) (rmSg l Z a0 hw [] p2 G1 h0 n0 Z0 O2 P5 X00) hZ (hw _ (List.mem_of_getElem? (i := 7) rfl)) (hw _ (List.mem_of_getElem? (i := 6) rfl)) (by decide) (by decide) hEL R0.1) (g := (mkF m 56 #[.val (.int p0), .val (.int p1), .val (.int p2), .val (.int p3), .val (.int p4), .val (.int p5), .val (.int k3), .val (.ref pk), .val (.int nn), .val (.int ix), .unset, .unset, .unset, .unset, .unset, .unset, .unset, .unset, .unset, .unset] [(.int p2)])) rfl (by rw [hml]; rfl) (argsL := [(.int p2)]) (rest := []) (lenOf pd_oIcLjavaslangsStringe rfl) rfl (by show 2 * 0 + _ ≤ _; exact Nat.le_of_eq rfl) (hb hby at_56) (fun _ _ => ⟨rfl, e5, (by decide : 0 + 6 ≤ _), (by decide : 0 + 12 ≤ _)⟩)
  dsimp only [Pt.U, Pt.locs, Pt.cells, Pt.slots] at Xx26 hSx26 hgx26 l26 y26 z26 r26 st26 hQ26
  subst l26 y26 z26
  obtain ⟨X26, hS26, hZ26, hown26⟩ := rebS hS0 (Nat.zero_le _) Xx26 hSx26 (e5 ▸ hgx26) hZ hown
  obtain ⟨x26, t26, kb26, cs26, rfl, Nq26, Kq26, gx26, So26, em26⟩ := hQ26
  have c27 : Steps p.tables e below S0 (T26.setTop (mkF m 59 #[.val (.int p0), .val (.int p1), .val (.int p2), .val (.int p3), .val (.int p4), .val (.int p5), .val (.int k3), .val (.ref pk), .val (.int nn), .val (.int ix), .unset, .unset, .unset, .unset, .unset, .unset, .unset, .unset, .unset, .unset] [(.ref x26)])) := c25.trans (st26)
  have N26 := Fr.app N5 Nq26
  have z26 : n0 ≤ T26.heap.size := Nat.le_trans Z0 Kq26.1
  have K26 := K0.trans Kq26 all0
  have R26 := R0.trans r26
  have lt_x26 := So26.1.lt
  have lt_t26 := So26.2.2.2.1.lt
  have c28 : Steps p.tables e below S0 (T26.setTop (mkF m 62 #[.val (.int p0), .val (.int p1), .val (.int p2), .val (.int p3), .val (.int p4), .val (.int p5), .val (.int k3), .val (.ref pk), .val (.int nn), .val (.int ix), .val (.ref x26), .unset, .unset, .unset, .unset, .unset, .unset, .unset, .unset, .unset] [(.int p3)])) := c27.trans (by
    show Steps p.tables e below (T26.setTop (mkF m 59 #[.val (.int p0), .val (.int p1), .val (.int p2), .val (.int p3), .val (.int p4), .val (.int p5), .val (.int k3), .val (.ref pk), .val (.int nn), .val (.int ix), .unset, .unset, .unset, .unset, .unset, .unset, .unset, .unset, .unset, .unset] [(.ref x26)])) _
    refine XS.astore X26.here hx rfl (hb hby at_59) rfl rfl (l' := #[.val (.int p0), .val (.int p1), .val (.int p2), .val (.int p3), .val (.int p4), .val (.int p5), .val (.int k3), .val (.ref pk), .val (.int nn), .val (.int ix), .val (.ref x26), .unset, .unset, .unset, .unset, .unset, .unset, .unset, .unset, .unset]) rfl ?_
    refine XS.iloadN X26.here hx rfl (hb hby at_61) rfl ?_
    exact Steps.refl _)
  obtain ⟨_, _, ⟨T29, L29, kk29, nn29⟩, -, Xx29, hSx29, hgx29, ⟨Lc29, hQ29, l29, y29, z29, r29⟩, st29⟩ := callSS X26 hx (y := (⟨"com/example/libroute/libroute/pattern/ParameterKindSpanPinLaw", "seg", "(I)Ljava/lang/String;"⟩ : MethodName)) hown26 (mvT hZ26 (hw _ (List.mem_of_getElem? (i := 4) rfl))) (mvT hZ26 (hw _ (List.mem_of_getElem? (i := 5) rfl))) (mvT hZ26 (hw _ (List.mem_of_getElem? (i := 6) rfl))) (mvT hZ26 (hw _ (List.mem_of_getElem? (i := 7) rfl))) (by decide) (backOfSH (W := 0) (rmSg l Z a0 hw [] p3 G1 T26.heap n0 z26 O2 P5 (X00.keep Kq26 all0)) hZ26 (hw _ (List.mem_of_getElem? (i := 7) rfl)) (hw _ (List.mem_of_getElem? (i := 6) rfl)) (by decide) (by decide) hEL R26.1) (g := (mkF m 62 #[.val (.int p0), .val (.int p1), .val (.int p2), .val (.int p3), .val (.int p4), .val (.int p5), .val (.int k3), .val (.ref pk), .val (.int nn), .val (.int ix), .val (.ref x26), .unset, .unset, .unset, .unset, .unset, .unset, .unset, .unset, .unset] [(.int p3)])) rfl (by rw [hml]; rfl) (argsL := [(.int p3)]) (rest := []) (lenOf pd_oIcLjavaslangsStringe rfl) rfl (by show 2 * 0 + _ ≤ _; exact Nat.le_of_eq rfl) (hb hby at_62) (fun _ _ => ⟨rfl, rfl, (by decide : 6 + 6 ≤ _), (by decide : 12 + 12 ≤ _)⟩)
  dsimp only [Pt.U, Pt.locs, Pt.cells, Pt.slots] at Xx29 hSx29 hgx29 l29 y29 z29 r29 st29 hQ29
  subst l29 y29 z29
  obtain ⟨X29, hS29, hZ29, hown29⟩ := rebS hS26 (Nat.le_refl _) Xx29 hSx29 hgx29 hZ26 hown26
  obtain ⟨x29, t29, kb29, cs29, rfl, Nq29, Kq29, gx29, So29, em29⟩ := hQ29
  have c30 : Steps p.tables e below S0 (T29.setTop (mkF m 65 #[.val (.int p0), .val (.int p1), .val (.int p2), .val (.int p3), .val (.int p4), .val (.int p5), .val (.int k3), .val (.ref pk), .val (.int nn), .val (.int ix), .val (.ref x26), .unset, .unset, .unset, .unset, .unset, .unset, .unset, .unset, .unset] [(.ref x29)])) := c28.trans (st29)
  have N29 := Fr.app N26 Nq29
  have z29 : n0 ≤ T29.heap.size := Nat.le_trans z26 Kq29.1
  have K29 := K26.trans Kq29 all0
  have R29 := R26.trans r29
  have lt_x29 := So29.1.lt
  have lt_t29 := So29.2.2.2.1.lt
  have c31 : Steps p.tables e below S0 (T29.setTop (mkF m 69 #[.val (.int p0), .val (.int p1), .val (.int p2), .val (.int p3), .val (.int p4), .val (.int p5), .val (.int k3), .val (.ref pk), .val (.int nn), .val (.int ix), .val (.ref x26), .val (.ref x29), .unset, .unset, .unset, .unset, .unset, .unset, .unset, .unset] [(.int p4)])) := c30.trans (by
    show Steps p.tables e below (T29.setTop (mkF m 65 #[.val (.int p0), .val (.int p1), .val (.int p2), .val (.int p3), .val (.int p4), .val (.int p5), .val (.int k3), .val (.ref pk), .val (.int nn), .val (.int ix), .val (.ref x26), .unset, .unset, .unset, .unset, .unset, .unset, .unset, .unset, .unset] [(.ref x29)])) _
    refine XS.astore X29.here hx rfl (hb hby at_65) rfl rfl (l' := #[.val (.int p0), .val (.int p1), .val (.int p2), .val (.int p3), .val (.int p4), .val (.int p5), .val (.int k3), .val (.ref pk), .val (.int nn), .val (.int ix), .val (.ref x26), .val (.ref x29), .unset, .unset, .unset, .unset, .unset, .unset, .unset, .unset]) rfl ?_
    refine XS.iload X29.here hx rfl (hb hby at_67) rfl ?_
    exact Steps.refl _)
  obtain ⟨_, _, ⟨T32, L32, kk32, nn32⟩, -, Xx32, hSx32, hgx32, ⟨Lc32, hQ32, l32, y32, z32, r32⟩, st32⟩ := callSS X29 hx (y := (⟨"com/example/libroute/libroute/pattern/ParameterKindSpanPinLaw", "seg", "(I)Ljava/lang/String;"⟩ : MethodName)) hown29 (mvT hZ29 (hw _ (List.mem_of_getElem? (i := 4) rfl))) (mvT hZ29 (hw _ (List.mem_of_getElem? (i := 5) rfl))) (mvT hZ29 (hw _ (List.mem_of_getElem? (i := 6) rfl))) (mvT hZ29 (hw _ (List.mem_of_getElem? (i := 7) rfl))) (by decide) (backOfSH (W := 0) (rmSg l Z a0 hw [] p4 G1 T29.heap n0 z29 O2 P5 ((X00.keep Kq26 all0).keep Kq29 all0)) hZ29 (hw _ (List.mem_of_getElem? (i := 7) rfl)) (hw _ (List.mem_of_getElem? (i := 6) rfl)) (by decide) (by decide) hEL R29.1) (g := (mkF m 69 #[.val (.int p0), .val (.int p1), .val (.int p2), .val (.int p3), .val (.int p4), .val (.int p5), .val (.int k3), .val (.ref pk), .val (.int nn), .val (.int ix), .val (.ref x26), .val (.ref x29), .unset, .unset, .unset, .unset, .unset, .unset, .unset, .unset] [(.int p4)])) rfl (by rw [hml]; rfl) (argsL := [(.int p4)]) (rest := []) (lenOf pd_oIcLjavaslangsStringe rfl) rfl (by show 2 * 0 + _ ≤ _; exact Nat.le_of_eq rfl) (hb hby at_69) (fun _ _ => ⟨rfl, rfl, (by decide : 12 + 6 ≤ _), (by decide : 24 + 12 ≤ _)⟩)
  dsimp only [Pt.U, Pt.locs, Pt.cells, Pt.slots] at Xx32 hSx32 hgx32 l32 y32 z32 r32 st32 hQ32
  subst l32 y32 z32
  obtain ⟨X32, hS32, hZ32, hown32⟩ := rebS hS29 (Nat.le_refl _) Xx32 hSx32 hgx32 hZ29 hown29
  obtain ⟨x32, t32, kb32, cs32, rfl, Nq32, Kq32, gx32, So32, em32⟩ := hQ32
  have c33 : Steps p.tables e below S0 (T32.setTop (mkF m 72 #[.val (.int p0), .val (.int p1), .val (.int p2), .val (.int p3), .val (.int p4), .val (.int p5), .val (.int k3), .val (.ref pk), .val (.int nn), .val (.int ix), .val (.ref x26), .val (.ref x29), .unset, .unset, .unset, .unset, .unset, .unset, .unset, .unset] [(.ref x32)])) := c31.trans (st32)
  have N32 := Fr.app N29 Nq32
  have z32 : n0 ≤ T32.heap.size := Nat.le_trans z29 Kq32.1
  have K32 := K29.trans Kq32 all0
  have R32 := R29.trans r32
  have lt_x32 := So32.1.lt
  have lt_t32 := So32.2.2.2.1.lt
  have c34 : Steps p.tables e below S0 (T32.setTop (mkF m 76 #[.val (.int p0), .val (.int p1), .val (.int p2), .val (.int p3), .val (.int p4), .val (.int p5), .val (.int k3), .val (.ref pk), .val (.int nn), .val (.int ix), .val (.ref x26), .val (.ref x29), .val (.ref x32), .unset, .unset, .unset, .unset, .unset, .unset, .unset] [(.int p5)])) := c33.trans (by
    show Steps p.tables e below (T32.setTop (mkF m 72 #[.val (.int p0), .val (.int p1), .val (.int p2), .val (.int p3), .val (.int p4), .val (.int p5), .val (.int k3), .val (.ref pk), .val (.int nn), .val (.int ix), .val (.ref x26), .val (.ref x29), .unset, .unset, .unset, .unset, .unset, .unset, .unset, .unset] [(.ref x32)])) _
    refine XS.astore X32.here hx rfl (hb hby at_72) rfl rfl (l' := #[.val (.int p0), .val (.int p1), .val (.int p2), .val (.int p3), .val (.int p4), .val (.int p5), .val (.int k3), .val (.ref pk), .val (.int nn), .val (.int ix), .val (.ref x26), .val (.ref x29), .val (.ref x32), .unset, .unset, .unset, .unset, .unset, .unset, .unset]) rfl ?_
    refine XS.iload X32.here hx rfl (hb hby at_74) rfl ?_
    exact Steps.refl _)
  obtain ⟨_, _, ⟨T35, L35, kk35, nn35⟩, -, Xx35, hSx35, hgx35, ⟨Lc35, hQ35, l35, y35, z35, r35⟩, st35⟩ := callSS X32 hx (y := (⟨"com/example/libroute/libroute/pattern/ParameterKindSpanPinLaw", "seg", "(I)Ljava/lang/String;"⟩ : MethodName)) hown32 (mvT hZ32 (hw _ (List.mem_of_getElem? (i := 4) rfl))) (mvT hZ32 (hw _ (List.mem_of_getElem? (i := 5) rfl))) (mvT hZ32 (hw _ (List.mem_of_getElem? (i := 6) rfl))) (mvT hZ32 (hw _ (List.mem_of_getElem? (i := 7) rfl))) (by decide) (backOfSH (W := 0) (rmSg l Z a0 hw [] p5 G1 T32.heap n0 z32 O2 P5 (((X00.keep Kq26 all0).keep Kq29 all0).keep Kq32 all0)) hZ32 (hw _ (List.mem_of_getElem? (i := 7) rfl)) (hw _ (List.mem_of_getElem? (i := 6) rfl)) (by decide) (by decide) hEL R32.1) (g := (mkF m 76 #[.val (.int p0), .val (.int p1), .val (.int p2), .val (.int p3), .val (.int p4), .val (.int p5), .val (.int k3), .val (.ref pk), .val (.int nn), .val (.int ix), .val (.ref x26), .val (.ref x29), .val (.ref x32), .unset, .unset, .unset, .unset, .unset, .unset, .unset] [(.int p5)])) rfl (by rw [hml]; rfl) (argsL := [(.int p5)]) (rest := []) (lenOf pd_oIcLjavaslangsStringe rfl) rfl (by show 2 * 0 + _ ≤ _; exact Nat.le_of_eq rfl) (hb hby at_76) (fun _ _ => ⟨rfl, rfl, (by decide : 18 + 6 ≤ _), (by decide : 36 + 12 ≤ _)⟩)
  dsimp only [Pt.U, Pt.locs, Pt.cells, Pt.slots] at Xx35 hSx35 hgx35 l35 y35 z35 r35 st35 hQ35
  subst l35 y35 z35
  obtain ⟨X35, hS35, hZ35, hown35⟩ := rebS hS32 (Nat.le_refl _) Xx35 hSx35 hgx35 hZ32 hown32
  obtain ⟨x35, t35, kb35, cs35, rfl, Nq35, Kq35, gx35, So35, em35⟩ := hQ35
  have c36 : Steps p.tables e below S0 (T35.setTop (mkF m 79 #[.val (.int p0), .val (.int p1), .val (.int p2), .val (.int p3), .val (.int p4), .val (.int p5), .val (.int k3), .val (.ref pk), .val (.int nn), .val (.int ix), .val (.ref x26), .val (.ref x29), .val (.ref x32), .unset, .unset, .unset, .unset, .unset, .unset, .unset] [(.ref x35)])) := c34.trans (st35)
  have N35 := Fr.app N32 Nq35
  have z35 : n0 ≤ T35.heap.size := Nat.le_trans z32 Kq35.1
  have K35 := K32.trans Kq35 all0
  have R35 := R32.trans r35
  have lt_x35 := So35.1.lt
  have lt_t35 := So35.2.2.2.1.lt
  have c37 : Steps p.tables e below S0 (T35.setTop (mkF m 84 #[.val (.int p0), .val (.int p1), .val (.int p2), .val (.int p3), .val (.int p4), .val (.int p5), .val (.int k3), .val (.ref pk), .val (.int nn), .val (.int ix), .val (.ref x26), .val (.ref x29), .val (.ref x32), .val (.ref x35), .unset, .unset, .unset, .unset, .unset, .unset] [(.int (1 : Int32)), (.int nn)])) := c36.trans (by
    show Steps p.tables e below (T35.setTop (mkF m 79 #[.val (.int p0), .val (.int p1), .val (.int p2), .val (.int p3), .val (.int p4), .val (.int p5), .val (.int k3), .val (.ref pk), .val (.int nn), .val (.int ix), .val (.ref x26), .val (.ref x29), .val (.ref x32), .unset, .unset, .unset, .unset, .unset, .unset, .unset] [(.ref x35)])) _
    refine XS.astore X35.here hx rfl (hb hby at_79) rfl rfl (l' := #[.val (.int p0), .val (.int p1), .val (.int p2), .val (.int p3), .val (.int p4), .val (.int p5), .val (.int k3), .val (.ref pk), .val (.int nn), .val (.int ix), .val (.ref x26), .val (.ref x29), .val (.ref x32), .val (.ref x35), .unset, .unset, .unset, .unset, .unset, .unset]) rfl ?_
    refine XS.iload X35.here hx rfl (hb hby at_81) rfl ?_
    refine XS.iconst X35.here hx rfl (hb hby at_83) ?_
    exact Steps.refl _)
  by_cases hq38 : nn = (1 : Int32)
  · have c39 : Steps p.tables e below S0 (T35.setTop (mkF m 87 #[.val (.int p0), .val (.int p1), .val (.int p2), .val (.int p3), .val (.int p4), .val (.int p5), .val (.int k3), .val (.ref pk), .val (.int nn), .val (.int ix), .val (.ref x26), .val (.ref x29), .val (.ref x32), .val (.ref x35), .unset, .unset, .unset, .unset, .unset, .unset] [])) := c37.trans (by
      show Steps p.tables e below (T35.setTop (mkF m 84 #[.val (.int p0), .val (.int p1), .val (.int p2), .val (.int p3), .val (.int p4), .val (.int p5), .val (.int k3), .val (.ref pk), .val (.int nn), .val (.int ix), .val (.ref x26), .val (.ref x29), .val (.ref x32), .val (.ref x35), .unset, .unset, .unset, .unset, .unset, .unset] [(.int (1 : Int32)), (.int nn)])) _
      refine XS.icmpNo X35.here hx rfl (hb hby at_84) rfl (teq hq38).2 ?_
      exact Steps.refl _)
    rw [hq38] at c39
    have hix3 := own_ix1 (hq38 ▸ hix2)
    have c40 : Steps p.tables e below S0 (T35.setTop (mkF m 88 #[.val (.int p0), .val (.int p1), .val (.int p2), .val (.int p3), .val (.int p4), .val (.int p5), .val (.int k3), .val (.ref pk), .val (.int (1 : Int32)), .val (.int ix), .val (.ref x26), .val (.ref x29), .val (.ref x32), .val (.ref x35), .unset, .unset, .unset, .unset, .unset, .unset] [(.int (1 : Int32))])) := c39.trans (by
      show Steps p.tables e below (T35.setTop (mkF m 87 #[.val (.int p0), .val (.int p1), .val (.int p2), .val (.int p3), .val (.int p4), .val (.int p5), .val (.int k3), .val (.ref pk), .val (.int (1 : Int32)), .val (.int ix), .val (.ref x26), .val (.ref x29), .val (.ref x32), .val (.ref x35), .unset, .unset, .unset, .unset, .unset, .unset] [])) _
      refine XS.iconst X35.here hx rfl (hb hby at_87) ?_
      exact Steps.refl _)
    obtain ⟨T41, h41, k41, X41, e41, E41, A41, O41, st41⟩ := newR X35 hx hZ35 hown35 (hw _ (List.mem_of_getElem? (i := 8) rfl)) (hw _ (List.mem_of_getElem? (i := 55) rfl)) rfl (g := (mkF m 88 #[.val (.int p0), .val (.int p1), .val (.int p2), .val (.int p3), .val (.int p4), .val (.int p5), .val (.int k3), .val (.ref pk), .val (.int (1 : Int32)), .val (.int ix), .val (.ref x26), .val (.ref x29), .val (.ref x32), .val (.ref x35), .unset, .unset, .unset, .unset, .unset, .unset] [(.int (1 : Int32))])) rfl (hb hby at_88) rfl (by decide) (cap := 1) (by decide) (by decide) (by decide) (by decide)
    obtain ⟨b41, g41⟩ : ∃ z, z = T35.heap.size := ⟨_, rfl⟩
    rw [← g41] at A41 st41
    have c42 : Steps p.tables e below S0 (T41.setTop (mkF m 91 #[.val (.int p0), .val (.int p1), .val (.int p2), .val (.int p3), .val (.int p4), .val (.int p5), .val (.int k3), .val (.ref pk), .val (.int (1 : Int32)), .val (.int ix), .val (.ref x26), .val (.ref x29), .val (.ref x32), .val (.ref x35), .unset, .unset, .unset, .unset, .unset, .unset] [(.ref b41)])) := c40.trans (st41 _ (Steps.refl _))
    have z41 : n0 ≤ h41.size := Nat.le_trans z35 E41.1
    have K41 := K35.ext E41
    have r41 : CHr Z EL T35.vm T35.heap T35.vm h41 := CHr.ext E41 R35.1
    have R41 := R35.trans r41
    have V41 : Arv Z h41 b41 k41 (.object "java/lang/String") (1 : Int32) [.null] .null := (Arv.new A41 (by decide)).pad (pad_rep [] .null 1)
    have lt_b41 : b41 < h41.size := V41.lt
    have c43 : Steps p.tables e below S0 (T41.setTop (mkF m 95 #[.val (.int p0), .val (.int p1), .val (.int p2), .val (.int p3), .val (.int p4), .val (.int p5), .val (.int k3), .val (.ref pk), .val (.int (1 : Int32)), .val (.int ix), .val (.ref x26), .val (.ref x29), .val (.ref x32), .val (.ref x35), .unset, .unset, .unset, .unset, .unset, .unset] [(.ref x26), (.int (0 : Int32)), (.ref b41), (.ref b41)])) := c42.trans (by
      show Steps p.tables e below (T41.setTop (mkF m 91 #[.val (.int p0), .val (.int p1), .val (.int p2), .val (.int p3), .val (.int p4), .val (.int p5), .val (.int k3), .val (.ref pk), .val (.int (1 : Int32)), .val (.int ix), .val (.ref x26), .val (.ref x29), .val (.ref x32), .val (.ref x35), .unset, .unset, .unset, .unset, .unset, .unset] [(.ref b41)])) _
      refine XS.dup X41.here hx rfl (hb hby at_91) rfl rfl ?_
      refine XS.iconst X41.here hx rfl (hb hby at_92) ?_
      refine XS.aload X41.here hx rfl (hb hby at_93) rfl rfl ?_
      exact Steps.refl _)
    obtain ⟨cl44, Ar44, q44, S44, Nn44, Ha44, G44⟩ := id V41
    obtain ⟨T44, h44, X44, e44, W44, st44⟩ := stR X41 hx hZ35 e41 Ar44 (j := (0 : Int32)) (inb_of S44 ⟨by decide, by decide⟩) rfl (Sto.ofV Ar44 q44 O41 (Ins.self ((((So26.1.keep Kq29).keep Kq32).keep Kq35).ext E41))) (g := (mkF m 95 #[.val (.int p0), .val (.int p1), .val (.int p2), .val (.int p3), .val (.int p4), .val (.int p5), .val (.int k3), .val (.ref pk), .val (.int (1 : Int32)), .val (.int ix), .val (.ref x26), .val (.ref x29), .val (.ref x32), .val (.ref x35), .unset, .unset, .unset, .unset, .unset, .unset] [(.ref x26), (.int (0 : Int32)), (.ref b41), (.ref b41)])) rfl rfl (hb hby at_95)
    have V44 : Arv Z h44 b41 k41 (.object "java/lang/String") (1 : Int32) [(.ref x26)] .null := Arv.set Ar44 q44 S44 Nn44 Ha44 G44 rfl W44 0 rfl (Nat.le_of_ble_eq_true rfl)
    have c45 : Steps p.tables e below S0 (T44.setTop (mkF m 96 #[.val (.int p0), .val (.int p1), .val (.int p2), .val (.int p3), .val (.int p4), .val (.int p5), .val (.int k3), .val (.ref pk), .val (.int (1 : Int32)), .val (.int ix), .val (.ref x26), .val (.ref x29), .val (.ref x32), .val (.ref x35), .unset, .unset, .unset, .unset, .unset, .unset] [(.ref b41)])) := c43.trans (st44 _ (Steps.refl _))
    have N44 := Fr.snoc X44 N35 (Nat.le_trans Z0 (Nat.le_trans K35.1 (Nat.le_of_eq g41.symm)))
    have z44 : n0 ≤ h44.size := Nat.le_trans z41 (Keep.of_wr W44).1
    have K44 := K41.wr W44 (Or.inr (Nat.le_trans K35.1 (Nat.le_of_eq g41.symm)))
    have r44 : CHr Z EL T35.vm h41 T35.vm h44 := CHr.wr W44 (Safe.arv hZ35.alike V41 (by decide)) R41.1
    have R44 := R41.trans r44
    have c46 : Steps p.tables e below S0 (T44.setTop (mkF m 183 #[.val (.int p0), .val (.int p1), .val (.int p2), .val (.int p3), .val (.int p4), .val (.int p5), .val (.int k3), .val (.ref pk), .val (.int (1 : Int32)), .val (.int ix), .val (.ref x26), .val (.ref x29), .val (.ref x32), .val (.ref x35), .val (.ref b41), .unset, .unset, .unset, .unset, .unset] [(.int (4 : Int32))])) := c45.trans (by
      show Steps p.tables e below (T44.setTop (mkF m 96 #[.val (.int p0), .val (.int p1), .val (.int p2), .val (.int p3), .val (.int p4), .val (.int p5), .val (.int k3), .val (.ref pk), .val (.int (1 : Int32)), .val (.int ix), .val (.ref x26), .val (.ref x29), .val (.ref x32), .val (.ref x35), .unset, .unset, .unset, .unset, .unset, .unset] [(.ref b41)])) _
      refine XS.astore X44.here hx rfl (hb hby at_96) rfl rfl (l' := #[.val (.int p0), .val (.int p1), .val (.int p2), .val (.int p3), .val (.int p4), .val (.int p5), .val (.int k3), .val (.ref pk), .val (.int (1 : Int32)), .val (.int ix), .val (.ref x26), .val (.ref x29), .val (.ref x32), .val (.ref x35), .val (.ref b41), .unset, .unset, .unset, .unset, .unset]) rfl ?_
      refine XS.goto X44.here hx rfl (pc0 := 98) (pc' := 182) rfl (hb hby at_98) (by decide) (by decide) ?_
      refine XS.iconst X44.here hx rfl (hb hby at_182) ?_
      exact Steps.refl _)
    obtain ⟨T47, h47, k47, X47, e47, E47, A47, st47⟩ := newP X44 hx hZ35 (hw _ (List.mem_of_getElem? (i := 56) rfl)) e44 (g := (mkF m 183 #[.val (.int p0), .val (.int p1), .val (.int p2), .val (.int p3), .val (.int p4), .val (.int p5), .val (.int k3), .val (.ref pk), .val (.int (1 : Int32)), .val (.int ix), .val (.ref x26), .val (.ref x29), .val (.ref x32), .val (.ref x35), .val (.ref b41), .unset, .unset, .unset, .unset, .unset] [(.int (4 : Int32))])) rfl (hb hby at_183) rfl (by decide) (cap := 4) (by decide) (by decide) (by decide) (by decide)
    obtain ⟨b47, g47⟩ : ∃ z, z = h44.size := ⟨_, rfl⟩
    rw [← g47] at A47 st47
    have c48 : Steps p.tables e below S0 (T47.setTop (mkF m 185 #[.val (.int p0), .val (.int p1), .val (.int p2), .val (.int p3), .val (.int p4), .val (.int p5), .val (.int k3), .val (.ref pk), .val (.int (1 : Int32)), .val (.int ix), .val (.ref x26), .val (.ref x29), .val (.ref x32), .val (.ref x35), .val (.ref b41), .unset, .unset, .unset, .unset, .unset] [(.ref b47)])) := c46.trans (st47 _ (Steps.refl _))
    have z47 : n0 ≤ h47.size := Nat.le_trans z44 E47.1
    have K47 := K44.ext E47
    have r47 : CHr Z EL T35.vm h44 T35.vm h47 := CHr.ext E47 R44.1
    have R47 := R44.trans r47
    have V47 : Arv Z h47 b47 k47 .int (4 : Int32) [(.int (0 : Int32)), (.int (0 : Int32)), (.int (0 : Int32)), (.int (0 : Int32))] (.int (0 : Int32)) := (Arv.new A47 (by decide)).pad (pad_rep [] (.int (0 : Int32)) 4)
    have lt_b47 : b47 < h47.size := V47.lt
    have c49 : Steps p.tables e below S0 (T47.setTop (mkF m 188 #[.val (.int p0), .val (.int p1), .val (.int p2), .val (.int p3), .val (.int p4), .val (.int p5), .val (.int k3), .val (.ref pk), .val (.int (1 : Int32)), .val (.int ix), .val (.ref x26), .val (.ref x29), .val (.ref x32), .val (.ref x35), .val (.ref b41), .unset, .unset, .unset, .unset, .unset] [(.int p2), (.int (0 : Int32)), (.ref b47), (.ref b47)])) := c48.trans (by
      show Steps p.tables e below (T47.setTop (mkF m 185 #[.val (.int p0), .val (.int p1), .val (.int p2), .val (.int p3), .val (.int p4), .val (.int p5), .val (.int k3), .val (.ref pk), .val (.int (1 : Int32)), .val (.int ix), .val (.ref x26), .val (.ref x29), .val (.ref x32), .val (.ref x35), .val (.ref b41), .unset, .unset, .unset, .unset, .unset] [(.ref b47)])) _
      refine XS.dup X47.here hx rfl (hb hby at_185) rfl rfl ?_
      refine XS.iconst X47.here hx rfl (hb hby at_186) ?_
      refine XS.iloadN X47.here hx rfl (hb hby at_187) rfl ?_
      exact Steps.refl _)
    obtain ⟨cl50, Ar50, q50, S50, Nn50, Ha50, G50⟩ := id V47
    obtain ⟨T50, h50, X50, e50, W50, st50⟩ := stI X47 hx hZ35 e47 Ar50 (j := (0 : Int32)) (inb_of S50 ⟨by decide, by decide⟩) (g := (mkF m 188 #[.val (.int p0), .val (.int p1), .val (.int p2), .val (.int p3), .val (.int p4), .val (.int p5), .val (.int k3), .val (.ref pk), .val (.int (1 : Int32)), .val (.int ix), .val (.ref x26), .val (.ref x29), .val (.ref x32), .val (.ref x35), .val (.ref b41), .unset, .unset, .unset, .unset, .unset] [(.int p2), (.int (0 : Int32)), (.ref b47), (.ref b47)])) rfl rfl (hb hby at_188)
    have V50 : Arv Z h50 b47 k47 .int (4 : Int32) [(.int p2), (.int (0 : Int32)), (.int (0 : Int32)), (.int (0 : Int32))] (.int (0 : Int32)) := Arv.set Ar50 q50 S50 Nn50 Ha50 G50 rfl W50 0 rfl (Nat.le_of_ble_eq_true rfl)
    have c51 : Steps p.tables e below S0 (T50.setTop (mkF m 189 #[.val (.int p0), .val (.int p1), .val (.int p2), .val (.int p3), .val (.int p4), .val (.int p5), .val (.int k3), .val (.ref pk), .val (.int (1 : Int32)), .val (.int ix), .val (.ref x26), .val (.ref x29), .val (.ref x32), .val (.ref x35), .val (.ref b41), .unset, .unset, .unset, .unset, .unset] [(.ref b47)])) := c49.trans (st50 _ (Steps.refl _))
    have N50 := Fr.snoc X50 N44 (Nat.le_trans Z0 (Nat.le_trans K44.1 (Nat.le_of_eq g47.symm)))
    have z50 : n0 ≤ h50.size := Nat.le_trans z47 (Keep.of_wr W50).1
    have K50 := K47.wr W50 (Or.inr (Nat.le_trans K44.1 (Nat.le_of_eq g47.symm)))
    have r50 : CHr Z EL T35.vm h47 T35.vm h50 := CHr.wr W50 (Safe.arv hZ35.alike V47 (by decide)) R47.1
    have R50 := R47.trans r50
    have c52 : Steps p.tables e below S0 (T50.setTop (mkF m 192 #[.val (.int p0), .val (.int p1), .val (.int p2), .val (.int p3), .val (.int p4), .val (.int p5), .val (.int k3), .val (.ref pk), .val (.int (1 : Int32)), .val (.int ix), .val (.ref x26), .val (.ref x29), .val (.ref x32), .val (.ref x35), .val (.ref b41), .unset, .unset, .unset, .unset, .unset] [(.int p3), (.int (1 : Int32)), (.ref b47), (.ref b47)])) := c51.trans (by
      show Steps p.tables e below (T50.setTop (mkF m 189 #[.val (.int p0), .val (.int p1), .val (.int p2), .val (.int p3), .val (.int p4), .val (.int p5), .val (.int k3), .val (.ref pk), .val (.int (1 : Int32)), .val (.int ix), .val (.ref x26), .val (.ref x29), .val (.ref x32), .val (.ref x35), .val (.ref b41), .unset, .unset, .unset, .unset, .unset] [(.ref b47)])) _
      refine XS.dup X50.here hx rfl (hb hby at_189) rfl rfl ?_
      refine XS.iconst X50.here hx rfl (hb hby at_190) ?_
      refine XS.iloadN X50.here hx rfl (hb hby at_191) rfl ?_
      exact Steps.refl _)
    obtain ⟨cl53, Ar53, q53, S53, Nn53, Ha53, G53⟩ := id V50
    obtain ⟨T53, h53, X53, e53, W53, st53⟩ := stI X50 hx hZ35 e50 Ar53 (j := (1 : Int32)) (inb_of S53 ⟨by decide, by decide⟩) (g := (mkF m 192 #[.val (.int p0), .val (.int p1), .val (.int p2), .val (.int p3), .val (.int p4), .val (.int p5), .val (.int k3), .val (.ref pk), .val (.int (1 : Int32)), .val (.int ix), .val (.ref x26), .val (.ref x29), .val (.ref x32), .val (.ref x35), .val (.ref b41), .unset, .unset, .unset, .unset, .unset] [(.int p3), (.int (1 : Int32)), (.ref b47), (.ref b47)])) rfl rfl (hb hby at_192)
    have V53 : Arv Z h53 b47 k47 .int (4 : Int32) [(.int p2), (.int p3), (.int (0 : Int32)), (.int (0 : Int32))] (.int (0 : Int32)) := Arv.set Ar53 q53 S53 Nn53 Ha53 G53 rfl W53 1 rfl (Nat.le_of_ble_eq_true rfl)
    have c54 : Steps p.tables e below S0 (T53.setTop (mkF m 193 #[.val (.int p0), .val (.int p1), .val (.int p2), .val (.int p3), .val (.int p4), .val (.int p5), .val (.int k3), .val (.ref pk), .val (.int (1 : Int32)), .val (.int ix), .val (.ref x26), .val (.ref x29), .val (.ref x32), .val (.ref x35), .val (.ref b41), .unset, .unset, .unset, .unset, .unset] [(.ref b47)])) := c52.trans (st53 _ (Steps.refl _))
    have N53 := Fr.snoc X53 N50 (Nat.le_trans Z0 (Nat.le_trans K44.1 (Nat.le_of_eq g47.symm)))
    have z53 : n0 ≤ h53.size := Nat.le_trans z50 (Keep.of_wr W53).1
    have K53 := K50.wr W53 (Or.inr (Nat.le_trans K44.1 (Nat.le_of_eq g47.symm)))
    have r53 : CHr Z EL T35.vm h50 T35.vm h53 := CHr.wr W53 (Safe.arv hZ35.alike V50 (by decide)) R50.1
    have R53 := R50.trans r53
    have c55 : Steps p.tables e below S0 (T53.setTop (mkF m 197 #[.val (.int p0), .val (.int p1), .val (.int p2), .val (.int p3), .val (.int p4), .val (.int p5), .val (.int k3), .val (.ref pk), .val (.int (1 : Int32)), .val (.int ix), .val (.ref x26), .val (.ref x29), .val (.ref x32), .val (.ref x35), .val (.ref b41), .unset, .unset, .unset, .unset, .unset] [(.int p4), (.int (2 : Int32)), (.ref b47), (.ref b47)])) := c54.trans (by
      show Steps p.tables e below (T53.setTop (mkF m 193 #[.val (.int p0), .val (.int p1), .val (.int p2), .val (.int p3), .val (.int p4), .val (.int p5), .val (.int k3), .val (.ref pk), .val (.int (1 : Int32)), .val (.int ix), .val (.ref x26), .val (.ref x29), .val (.ref x32), .val (.ref x35), .val (.ref b41), .unset, .unset, .unset, .unset, .unset] [(.ref b47)])) _
      refine XS.dup X53.here hx rfl (hb hby at_193) rfl rfl ?_
      refine XS.iconst X53.here hx rfl (hb hby at_194) ?_
      refine XS.iload X53.here hx rfl (hb hby at_195) rfl ?_
      exact Steps.refl _)
    obtain ⟨cl56, Ar56, q56, S56, Nn56, Ha56, G56⟩ := id V53
    obtain ⟨T56, h56, X56, e56, W56, st56⟩ := stI X53 hx hZ35 e53 Ar56 (j := (2 : Int32)) (inb_of S56 ⟨by decide, by decide⟩) (g := (mkF m 197 #[.val (.int p0), .val (.int p1), .val (.int p2), .val (.int p3), .val (.int p4), .val (.int p5), .val (.int k3), .val (.ref pk), .val (.int (1 : Int32)), .val (.int ix), .val (.ref x26), .val (.ref x29), .val (.ref x32), .val (.ref x35), .val (.ref b41), .unset, .unset, .unset, .unset, .unset] [(.int p4), (.int (2 : Int32)), (.ref b47), (.ref b47)])) rfl rfl (hb hby at_197)
    have V56 : Arv Z h56 b47 k47 .int (4 : Int32) [(.int p2), (.int p3), (.int p4), (.int (0 : Int32))] (.int (0 : Int32)) := Arv.set Ar56 q56 S56 Nn56 Ha56 G56 rfl W56 2 rfl (Nat.le_of_ble_eq_true rfl)
    have c57 : Steps p.tables e below S0 (T56.setTop (mkF m 198 #[.val (.int p0), .val (.int p1), .val (.int p2), .val (.int p3), .val (.int p4), .val (.int p5), .val (.int k3), .val (.ref pk), .val (.int (1 : Int32)), .val (.int ix), .val (.ref x26), .val (.ref x29), .val (.ref x32), .val (.ref x35), .val (.ref b41), .unset, .unset, .unset, .unset, .unset] [(.ref b47)])) := c55.trans (st56 _ (Steps.refl _))
    have N56 := Fr.snoc X56 N53 (Nat.le_trans Z0 (Nat.le_trans K44.1 (Nat.le_of_eq g47.symm)))
    have z56 : n0 ≤ h56.size := Nat.le_trans z53 (Keep.of_wr W56).1
    have K56 := K53.wr W56 (Or.inr (Nat.le_trans K44.1 (Nat.le_of_eq g47.symm)))
    have r56 : CHr Z EL T35.vm h53 T35.vm h56 := CHr.wr W56 (Safe.arv hZ35.alike V53 (by decide)) R53.1
    have R56 := R53.trans r56
    have c58 : Steps p.tables e below S0 (T56.setTop (mkF m 202 #[.val (.int p0), .val (.int p1), .val (.int p2), .val (.int p3), .val (.int p4), .val (.int p5), .val (.int k3), .val (.ref pk), .val (.int (1 : Int32)), .val (.int ix), .val (.ref x26), .val (.ref x29), .val (.ref x32), .val (.ref x35), .val (.ref b41), .unset, .unset, .unset, .unset, .unset] [(.int p5), (.int (3 : Int32)), (.ref b47), (.ref b47)])) := c57.trans (by
      show Steps p.tables e below (T56.setTop (mkF m 198 #[.val (.int p0), .val (.int p1), .val (.int p2), .val (.int p3), .val (.int p4), .val (.int p5), .val (.int k3), .val (.ref pk), .val (.int (1 : Int32)), .val (.int ix), .val (.ref x26), .val (.ref x29), .val (.ref x32), .val (.ref x35), .val (.ref b41), .unset, .unset, .unset, .unset, .unset] [(.ref b47)])) _
      refine XS.dup X56.here hx rfl (hb hby at_198) rfl rfl ?_
      refine XS.iconst X56.here hx rfl (hb hby at_199) ?_
      refine XS.iload X56.here hx rfl (hb hby at_200) rfl ?_
      exact Steps.refl _)
    obtain ⟨cl59, Ar59, q59, S59, Nn59, Ha59, G59⟩ := id V56
    obtain ⟨T59, h59, X59, e59, W59, st59⟩ := stI X56 hx hZ35 e56 Ar59 (j := (3 : Int32)) (inb_of S59 ⟨by decide, by decide⟩) (g := (mkF m 202 #[.val (.int p0), .val (.int p1), .val (.int p2), .val (.int p3), .val (.int p4), .val (.int p5), .val (.int k3), .val (.ref pk), .val (.int (1 : Int32)), .val (.int ix), .val (.ref x26), .val (.ref x29), .val (.ref x32), .val (.ref x35), .val (.ref b41), .unset, .unset, .unset, .unset, .unset] [(.int p5), (.int (3 : Int32)), (.ref b47), (.ref b47)])) rfl rfl (hb hby at_202)
    have V59 : Arv Z h59 b47 k47 .int (4 : Int32) [(.int p2), (.int p3), (.int p4), (.int p5)] (.int (0 : Int32)) := Arv.set Ar59 q59 S59 Nn59 Ha59 G59 rfl W59 3 rfl (Nat.le_of_ble_eq_true rfl)
    have c60 : Steps p.tables e below S0 (T59.setTop (mkF m 203 #[.val (.int p0), .val (.int p1), .val (.int p2), .val (.int p3), .val (.int p4), .val (.int p5), .val (.int k3), .val (.ref pk), .val (.int (1 : Int32)), .val (.int ix), .val (.ref x26), .val (.ref x29), .val (.ref x32), .val (.ref x35), .val (.ref b41), .unset, .unset, .unset, .unset, .unset] [(.ref b47)])) := c58.trans (st59 _ (Steps.refl _))
    have N59 := Fr.snoc X59 N56 (Nat.le_trans Z0 (Nat.le_trans K44.1 (Nat.le_of_eq g47.symm)))
    have z59 : n0 ≤ h59.size := Nat.le_trans z56 (Keep.of_wr W59).1
    have K59 := K56.wr W59 (Or.inr (Nat.le_trans K44.1 (Nat.le_of_eq g47.symm)))
    have r59 : CHr Z EL T35.vm h56 T35.vm h59 := CHr.wr W59 (Safe.arv hZ35.alike V56 (by decide)) R56.1
    have R59 := R56.trans r59
    have c61 : Steps p.tables e below S0 (T59.setTop (mkF m 205 #[.val (.int p0), .val (.int p1), .val (.int p2), .val (.int p3), .val (.int p4), .val (.int p5), .val (.int k3), .val (.ref pk), .val (.int (1 : Int32)), .val (.int ix), .val (.ref x26), .val (.ref x29), .val (.ref x32), .val (.ref x35), .val (.ref b41), .val (.ref b47), .unset, .unset, .unset, .unset] [])) := c60.trans (by
      show Steps p.tables e below (T59.setTop (mkF m 203 #[.val (.int p0), .val (.int p1), .val (.int p2), .val (.int p3), .val (.int p4), .val (.int p5), .val (.int k3), .val (.ref pk), .val (.int (1 : Int32)), .val (.int ix), .val (.ref x26), .val (.ref x29), .val (.ref x32), .val (.ref x35), .val (.ref b41), .unset, .unset, .unset, .unset, .unset] [(.ref b47)])) _
      refine XS.astore X59.here hx rfl (hb hby at_203) rfl rfl (l' := #[.val (.int p0), .val (.int p1), .val (.int p2), .val (.int p3), .val (.int p4), .val (.int p5), .val (.int k3), .val (.ref pk), .val (.int (1 : Int32)), .val (.int ix), .val (.ref x26), .val (.ref x29), .val (.ref x32), .val (.ref x35), .val (.ref b41), .val (.ref b47), .unset, .unset, .unset, .unset]) rfl ?_
      exact Steps.refl _)
    have ei := hix3
    rw [ei] at c61
    have c62 : Steps p.tables e below S0 (T59.setTop (mkF m 209 #[.val (.int p0), .val (.int p1), .val (.int p2), .val (.int p3), .val (.int p4), .val (.int p5), .val (.int k3), .val (.ref pk), .val (.int (1 : Int32)), .val (.int (0 : Int32)), .val (.ref x26), .val (.ref x29), .val (.ref x32), .val (.ref x35), .val (.ref b41), .val (.ref b47), .unset, .unset, .unset, .unset] [(.int (0 : Int32)), (.ref b47)])) := c61.trans (by
      show Steps p.tables e below (T59.setTop (mkF m 205 #[.val (.int p0), .val (.int p1), .val (.int p2), .val (.int p3), .val (.int p4), .val (.int p5), .val (.int k3), .val (.ref pk), .val (.int (1 : Int32)), .val (.int (0 : Int32)), .val (.ref x26), .val (.ref x29), .val (.ref x32), .val (.ref x35), .val (.ref b41), .val (.ref b47), .unset, .unset, .unset, .unset] [])) _
      refine XS.aload X59.here hx rfl (hb hby at_205) rfl rfl ?_
      refine XS.iload X59.here hx rfl (hb hby at_207) rfl ?_
      exact Steps.refl _)
    obtain ⟨cl63, Ar63, -, S63, -, Ha63, -⟩ := id V59
    have c64 : Steps p.tables e below S0 (T59.setTop (mkF m 212 #[.val (.int p0), .val (.int p1), .val (.int p2), .val (.int p3), .val (.int p4), .val (.int p5), .val (.int k3), .val (.ref pk), .val (.int (1 : Int32)), .val (.int (0 : Int32)), .val (.ref x26), .val (.ref x29), .val (.ref x32), .val (.ref x35), .val (.ref b41), .val (.ref b47), .unset, .unset, .unset, .unset] [(.int (p2 &&& (3 : Int32)))])) := c62.trans (by
      show Steps p.tables e below (T59.setTop (mkF m 209 #[.val (.int p0), .val (.int p1), .val (.int p2), .val (.int p3), .val (.int p4), .val (.int p5), .val (.int k3), .val (.ref pk), .val (.int (1 : Int32)), .val (.int (0 : Int32)), .val (.ref x26), .val (.ref x29), .val (.ref x32), .val (.ref x35), .val (.ref b41), .val (.ref b47), .unset, .unset, .unset, .unset] [(.int (0 : Int32)), (.ref b47)])) _
      refine X59.iaload hx (j := (0 : Int32)) (v := (.int p2)) (by rw [e59]; exact Ar63.1) (State.isArrayOf_alike hZ35.alike Ar63.2.1) Ar63.2.2 (inb_of S63 ⟨by decide, by decide⟩) (Ha63.at (inb_of S63 ⟨by decide, by decide⟩) rfl) (g := (mkF m 209 #[.val (.int p0), .val (.int p1), .val (.int p2), .val (.int p3), .val (.int p4), .val (.int p5), .val (.int k3), .val (.ref pk), .val (.int (1 : Int32)), .val (.int (0 : Int32)), .val (.ref x26), .val (.ref x29), .val (.ref x32), .val (.ref x35), .val (.ref b41), .val (.ref b47), .unset, .unset, .unset, .unset] [(.int (0 : Int32)), (.ref b47)])) rfl rfl (hb hby at_209) _ ?_
      refine XS.iconst X59.here hx rfl (hb hby at_210) ?_
      refine XS.iand X59.here hx rfl (hb hby at_211) rfl ?_
      exact Steps.refl _)
    obtain ⟨he, hhe, c67⟩ : ∃ (he : Int32), he = (if (p2 &&& (3 : Int32)) = (0 : Int32) then (1 : Int32) else (0 : Int32)) ∧ Steps p.tables e below S0 (T59.setTop (mkF m 220 #[.val (.int p0), .val (.int p1), .val (.int p2), .val (.int p3), .val (.int p4), .val (.int p5), .val (.int k3), .val (.ref pk), .val (.int (1 : Int32)), .val (.int (0 : Int32)), .val (.ref x26), .val (.ref x29), .val (.ref x32), .val (.ref x35), .val (.ref b41), .val (.ref b47), .unset, .unset, .unset, .unset] [(.int he)])) := by
      by_cases hq65 : (p2 &&& (3 : Int32)) = (0 : Int32)
      · exact ⟨_, (by rw [if_pos hq65]), c64.trans (by
          show Steps p.tables e below (T59.setTop (mkF m 212 #[.val (.int p0), .val (.int p1), .val (.int p2), .val (.int p3), .val (.int p4), .val (.int p5), .val (.int k3), .val (.ref pk), .val (.int (1 : Int32)), .val (.int (0 : Int32)), .val (.ref x26), .val (.ref x29), .val (.ref x32), .val (.ref x35), .val (.ref b41), .val (.ref b47), .unset, .unset, .unset, .unset] [(.int (p2 &&& (3 : Int32)))])) _
          refine XS.ifNo X59.here hx rfl (hb hby at_212) rfl ((if0 _ _).trans (teq hq65).2) ?_
          refine XS.iconst X59.here hx rfl (hb hby at_215) ?_
          refine XS.goto X59.here hx rfl (pc0 := 216) (pc' := 220) rfl (hb hby at_216) (by decide) (by decide) ?_
          exact Steps.refl _)⟩
      · exact ⟨_, (by rw [if_neg hq65]), c64.trans (by
          show Steps p.tables e below (T59.setTop (mkF m 212 #[.val (.int p0), .val (.int p1), .val (.int p2), .val (.int p3), .val (.int p4), .val (.int p5), .val (.int k3), .val (.ref pk), .val (.int (1 : Int32)), .val (.int (0 : Int32)), .val (.ref x26), .val (.ref x29), .val (.ref x32), .val (.ref x35), .val (.ref b41), .val (.ref b47), .unset, .unset, .unset, .unset] [(.int (p2 &&& (3 : Int32)))])) _
          refine XS.ifYes X59.here hx rfl (pc0 := 212) (pc' := 219) rfl (hb hby at_212) rfl ((if0 _ _).trans (feq hq65).2) (by decide) (by decide) ?_
          refine XS.iconst X59.here hx rfl (hb hby at_219) ?_
          exact Steps.refl _)⟩
    have c68 : Steps p.tables e below S0 (T59.setTop (mkF m 231 #[.val (.int p0), .val (.int p1), .val (.int p2), .val (.int p3), .val (.int p4), .val (.int p5), .val (.int k3), .val (.ref pk), .val (.int (1 : Int32)), .val (.int (0 : Int32)), .val (.ref x26), .val (.ref x29), .val (.ref x32), .val (.ref x35), .val (.ref b41), .val (.ref b47), .val (.int he), .val (.int (1 : Int32)), .unset, .unset] [(.int k3)])) := c67.trans (by
      show Steps p.tables e below (T59.setTop (mkF m 220 #[.val (.int p0), .val (.int p1), .val (.int p2), .val (.int p3), .val (.int p4), .val (.int p5), .val (.int k3), .val (.ref pk), .val (.int (1 : Int32)), .val (.int (0 : Int32)), .val (.ref x26), .val (.ref x29), .val (.ref x32), .val (.ref x35), .val (.ref b41), .val (.ref b47), .unset, .unset, .unset, .unset] [(.int he)])) _
      refine XS.istore X59.here hx rfl (hb hby at_220) rfl (l' := #[.val (.int p0), .val (.int p1), .val (.int p2), .val (.int p3), .val (.int p4), .val (.int p5), .val (.int k3), .val (.ref pk), .val (.int (1 : Int32)), .val (.int (0 : Int32)), .val (.ref x26), .val (.ref x29), .val (.ref x32), .val (.ref x35), .val (.ref b41), .val (.ref b47), .val (.int he), .unset, .unset, .unset]) rfl ?_
      refine XS.iload X59.here hx rfl (hb hby at_222) rfl ?_
      refine XS.iload X59.here hx rfl (hb hby at_224) rfl ?_
      refine XS.isub X59.here hx rfl (hb hby at_226) rfl ?_
      show Steps p.tables e below (T59.setTop (mkF m 227 #[.val (.int p0), .val (.int p1), .val (.int p2), .val (.int p3), .val (.int p4), .val (.int p5), .val (.int k3), .val (.ref pk), .val (.int (1 : Int32)), .val (.int (0 : Int32)), .val (.ref x26), .val (.ref x29), .val (.ref x32), .val (.ref x35), .val (.ref b41), .val (.ref b47), .val (.int he), .unset, .unset, .unset] [(.int (1 : Int32))])) _
      refine XS.istore X59.here hx rfl (hb hby at_227) rfl (l' := #[.val (.int p0), .val (.int p1), .val (.int p2), .val (.int p3), .val (.int p4), .val (.int p5), .val (.int k3), .val (.ref pk), .val (.int (1 : Int32)), .val (.int (0 : Int32)), .val (.ref x26), .val (.ref x29), .val (.ref x32), .val (.ref x35), .val (.ref b41), .val (.ref b47), .val (.int he), .val (.int (1 : Int32)), .unset, .unset]) rfl ?_
      refine XS.iload X59.here hx rfl (hb hby at_229) rfl ?_
      exact Steps.refl _)
    obtain ⟨ex, hex, c74⟩ : ∃ (ex : Int32), ex = (if k3 = (0 : Int32) then (if he = (0 : Int32) then (1 : Int32) else (0 : Int32)) else (if k3 = (1 : Int32) then (if he = (0 : Int32) then (1 : Int32) else (0 : Int32)) else (1 : Int32))) ∧ Steps p.tables e below S0 (T59.setTop (mkF m 281 #[.val (.int p0), .val (.int p1), .val (.int p2), .val (.int p3), .val (.int p4), .val (.int p5), .val (.int k3), .val (.ref pk), .val (.int (1 : Int32)), .val (.int (0 : Int32)), .val (.ref x26), .val (.ref x29), .val (.ref x32), .val (.ref x35), .val (.ref b41), .val (.ref b47), .val (.int he), .val (.int (1 : Int32)), .val (.int ex), .unset] [])) := by
      by_cases hq69 : k3 = (0 : Int32)
      · by_cases hq70 : he = (0 : Int32)
        · exact ⟨_, (by rw [if_pos hq69, if_pos hq70]), c68.trans (by
            show Steps p.tables e below (T59.setTop (mkF m 231 #[.val (.int p0), .val (.int p1), .val (.int p2), .val (.int p3), .val (.int p4), .val (.int p5), .val (.int k3), .val (.ref pk), .val (.int (1 : Int32)), .val (.int (0 : Int32)), .val (.ref x26), .val (.ref x29), .val (.ref x32), .val (.ref x35), .val (.ref b41), .val (.ref b47), .val (.int he), .val (.int (1 : Int32)), .unset, .unset] [(.int k3)])) _
            refine XS.ifNo X59.here hx rfl (hb hby at_231) rfl ((if0 _ _).trans (teq hq69).2) ?_
            refine XS.iload X59.here hx rfl (hb hby at_234) rfl ?_
            refine XS.ifYes X59.here hx rfl (pc0 := 236) (pc' := 243) rfl (hb hby at_236) rfl ((if0 _ _).trans (teq hq70).1) (by decide) (by decide) ?_
            refine XS.iconst X59.here hx rfl (hb hby at_243) ?_
            show Steps p.tables e below (T59.setTop (mkF m 244 #[.val (.int p0), .val (.int p1), .val (.int p2), .val (.int p3), .val (.int p4), .val (.int p5), .val (.int k3), .val (.ref pk), .val (.int (1 : Int32)), .val (.int (0 : Int32)), .val (.ref x26), .val (.ref x29), .val (.ref x32), .val (.ref x35), .val (.ref b41), .val (.ref b47), .val (.int he), .val (.int (1 : Int32)), .unset, .unset] [(.int (1 : Int32))])) _
            refine XS.istore X59.here hx rfl (hb hby at_244) rfl (l' := #[.val (.int p0), .val (.int p1), .val (.int p2), .val (.int p3), .val (.int p4), .val (.int p5), .val (.int k3), .val (.ref pk), .val (.int (1 : Int32)), .val (.int (0 : Int32)), .val (.ref x26), .val (.ref x29), .val (.ref x32), .val (.ref x35), .val (.ref b41), .val (.ref b47), .val (.int he), .val (.int (1 : Int32)), .val (.int (1 : Int32)), .unset]) rfl ?_
            refine XS.goto X59.here hx rfl (pc0 := 246) (pc' := 281) rfl (hb hby at_246) (by decide) (by decide) ?_
            exact Steps.refl _)⟩
        · exact ⟨_, (by rw [if_pos hq69, if_neg hq70]), c68.trans (by
            show Steps p.tables e below (T59.setTop (mkF m 231 #[.val (.int p0), .val (.int p1), .val (.int p2), .val (.int p3), .val (.int p4), .val (.int p5), .val (.int k3), .val (.ref pk), .val (.int (1 : Int32)), .val (.int (0 : Int32)), .val (.ref x26), .val (.ref x29), .val (.ref x32), .val (.ref x35), .val (.ref b41), .val (.ref b47), .val (.int he), .val (.int (1 : Int32)), .unset, .unset] [(.int k3)])) _
            refine XS.ifNo X59.here hx rfl (hb hby at_231) rfl ((if0 _ _).trans (teq hq69).2) ?_
            refine XS.iload X59.here hx rfl (hb hby at_234) rfl ?_
            refine XS.ifNo X59.here hx rfl (hb hby at_236) rfl ((if0 _ _).trans (feq hq70).1) ?_
            refine XS.iconst X59.here hx rfl (hb hby at_239) ?_
            show Steps p.tables e below (T59.setTop (mkF m 240 #[.val (.int p0), .val (.int p1), .val (.int p2), .val (.int p3), .val (.int p4), .val (.int p5), .val (.int k3), .val (.ref pk), .val (.int (1 : Int32)), .val (.int (0 : Int32)), .val (.ref x26), .val (.ref x29), .val (.ref x32), .val (.ref x35), .val (.ref b41), .val (.ref b47), .val (.int he), .val (.int (1 : Int32)), .unset, .unset] [(.int (0 : Int32))])) _
            refine XS.goto X59.here hx rfl (pc0 := 240) (pc' := 244) rfl (hb hby at_240) (by decide) (by decide) ?_
            refine XS.istore X59.here hx rfl (hb hby at_244) rfl (l' := #[.val (.int p0), .val (.int p1), .val (.int p2), .val (.int p3), .val (.int p4), .val (.int p5), .val (.int k3), .val (.ref pk), .val (.int (1 : Int32)), .val (.int (0 : Int32)), .val (.ref x26), .val (.ref x29), .val (.ref x32), .val (.ref x35), .val (.ref b41), .val (.ref b47), .val (.int he), .val (.int (1 : Int32)), .val (.int (0 : Int32)), .unset]) rfl ?_
            refine XS.goto X59.here hx rfl (pc0 := 246) (pc' := 281) rfl (hb hby at_246) (by decide) (by decide) ?_
            exact Steps.refl _)⟩
      · by_cases hq71 : k3 = (1 : Int32)
        · by_cases hq72 : he = (0 : Int32)
          · exact ⟨_, (by rw [if_neg hq69, if_pos hq71, if_pos hq72]), c68.trans (by
              show Steps p.tables e below (T59.setTop (mkF m 231 #[.val (.int p0), .val (.int p1), .val (.int p2), .val (.int p3), .val (.int p4), .val (.int p5), .val (.int k3), .val (.ref pk), .val (.int (1 : Int32)), .val (.int (0 : Int32)), .val (.ref x26), .val (.ref x29), .val (.ref x32), .val (.ref x35), .val (.ref b41), .val (.ref b47), .val (.int he), .val (.int (1 : Int32)), .unset, .unset] [(.int k3)])) _
              refine XS.ifYes X59.here hx rfl (pc0 := 231) (pc' := 249) rfl (hb hby at_231) rfl ((if0 _ _).trans (feq hq69).2) (by decide) (by decide) ?_
              refine XS.iload X59.here hx rfl (hb hby at_249) rfl ?_
              refine XS.iconst X59.here hx rfl (hb hby at_251) ?_
              refine XS.icmpNo X59.here hx rfl (hb hby at_252) rfl (teq hq71).2 ?_
              show Steps p.tables e below (T59.setTop (mkF m 255 #[.val (.int p0), .val (.int p1), .val (.int p2), .val (.int p3), .val (.int p4), .val (.int p5), .val (.int k3), .val (.ref pk), .val (.int (1 : Int32)), .val (.int (0 : Int32)), .val (.ref x26), .val (.ref x29), .val (.ref x32), .val (.ref x35), .val (.ref b41), .val (.ref b47), .val (.int he), .val (.int (1 : Int32)), .unset, .unset] [])) _
              refine XS.iload X59.here hx rfl (hb hby at_255) rfl ?_
              refine XS.iconst X59.here hx rfl (hb hby at_257) ?_
              refine XS.icmpNo X59.here hx rfl (hb hby at_258) rfl (teq (by decide : ((1 : Int32) = (1 : Int32)))).2 ?_
              refine XS.iload X59.here hx rfl (hb hby at_261) rfl ?_
              show Steps p.tables e below (T59.setTop (mkF m 263 #[.val (.int p0), .val (.int p1), .val (.int p2), .val (.int p3), .val (.int p4), .val (.int p5), .val (.int k3), .val (.ref pk), .val (.int (1 : Int32)), .val (.int (0 : Int32)), .val (.ref x26), .val (.ref x29), .val (.ref x32), .val (.ref x35), .val (.ref b41), .val (.ref b47), .val (.int he), .val (.int (1 : Int32)), .unset, .unset] [(.int he)])) _
              refine XS.ifYes X59.here hx rfl (pc0 := 263) (pc' := 270) rfl (hb hby at_263) rfl ((if0 _ _).trans (teq hq72).1) (by decide) (by decide) ?_
              refine XS.iload X59.here hx rfl (hb hby at_270) rfl ?_
              refine XS.istore X59.here hx rfl (hb hby at_272) rfl (l' := #[.val (.int p0), .val (.int p1), .val (.int p2), .val (.int p3), .val (.int p4), .val (.int p5), .val (.int k3), .val (.ref pk), .val (.int (1 : Int32)), .val (.int (0 : Int32)), .val (.ref x26), .val (.ref x29), .val (.ref x32), .val (.ref x35), .val (.ref b41), .val (.ref b47), .val (.int he), .val (.int (1 : Int32)), .val (.int (1 : Int32)), .unset]) rfl ?_
              refine XS.goto X59.here hx rfl (pc0 := 274) (pc' := 281) rfl (hb hby at_274) (by decide) (by decide) ?_
              exact Steps.refl _)⟩
          · exact ⟨_, (by rw [if_neg hq69, if_pos hq71, if_neg hq72]), c68.trans (by
              show Steps p.tables e below (T59.setTop (mkF m 231 #[.val (.int p0), .val (.int p1), .val (.int p2), .val (.int p3), .val (.int p4), .val (.int p5), .val (.int k3), .val (.ref pk), .val (.int (1 : Int32)), .val (.int (0 : Int32)), .val (.ref x26), .val (.ref x29), .val (.ref x32), .val (.ref x35), .val (.ref b41), .val (.ref b47), .val (.int he), .val (.int (1 : Int32)), .unset, .unset] [(.int k3)])) _
              refine XS.ifYes X59.here hx rfl (pc0 := 231) (pc' := 249) rfl (hb hby at_231) rfl ((if0 _ _).trans (feq hq69).2) (by decide) (by decide) ?_
              refine XS.iload X59.here hx rfl (hb hby at_249) rfl ?_
              refine XS.iconst X59.here hx rfl (hb hby at_251) ?_
              refine XS.icmpNo X59.here hx rfl (hb hby at_252) rfl (teq hq71).2 ?_
              show Steps p.tables e below (T59.setTop (mkF m 255 #[.val (.int p0), .val (.int p1), .val (.int p2), .val (.int p3), .val (.int p4), .val (.int p5), .val (.int k3), .val (.ref pk), .val (.int (1 : Int32)), .val (.int (0 : Int32)), .val (.ref x26), .val (.ref x29), .val (.ref x32), .val (.ref x35), .val (.ref b41), .val (.ref b47), .val (.int he), .val (.int (1 : Int32)), .unset, .unset] [])) _
              refine XS.iload X59.here hx rfl (hb hby at_255) rfl ?_
              refine XS.iconst X59.here hx rfl (hb hby at_257) ?_
              refine XS.icmpNo X59.here hx rfl (hb hby at_258) rfl (teq (by decide : ((1 : Int32) = (1 : Int32)))).2 ?_
              refine XS.iload X59.here hx rfl (hb hby at_261) rfl ?_
              show Steps p.tables e below (T59.setTop (mkF m 263 #[.val (.int p0), .val (.int p1), .val (.int p2), .val (.int p3), .val (.int p4), .val (.int p5), .val (.int k3), .val (.ref pk), .val (.int (1 : Int32)), .val (.int (0 : Int32)), .val (.ref x26), .val (.ref x29), .val (.ref x32), .val (.ref x35), .val (.ref b41), .val (.ref b47), .val (.int he), .val (.int (1 : Int32)), .unset, .unset] [(.int he)])) _
              refine XS.ifNo X59.here hx rfl (hb hby at_263) rfl ((if0 _ _).trans (feq hq72).1) ?_
              refine XS.iconst X59.here hx rfl (hb hby at_266) ?_
              refine XS.goto X59.here hx rfl (pc0 := 267) (pc' := 272) rfl (hb hby at_267) (by decide) (by decide) ?_
              refine XS.istore X59.here hx rfl (hb hby at_272) rfl (l' := #[.val (.int p0), .val (.int p1), .val (.int p2), .val (.int p3), .val (.int p4), .val (.int p5), .val (.int k3), .val (.ref pk), .val (.int (1 : Int32)), .val (.int (0 : Int32)), .val (.ref x26), .val (.ref x29), .val (.ref x32), .val (.ref x35), .val (.ref b41), .val (.ref b47), .val (.int he), .val (.int (1 : Int32)), .val (.int (0 : Int32)), .unset]) rfl ?_
              show Steps p.tables e below (T59.setTop (mkF m 274 #[.val (.int p0), .val (.int p1), .val (.int p2), .val (.int p3), .val (.int p4), .val (.int p5), .val (.int k3), .val (.ref pk), .val (.int (1 : Int32)), .val (.int (0 : Int32)), .val (.ref x26), .val (.ref x29), .val (.ref x32), .val (.ref x35), .val (.ref b41), .val (.ref b47), .val (.int he), .val (.int (1 : Int32)), .val (.int (0 : Int32)), .unset] [])) _
              refine XS.goto X59.here hx rfl (pc0 := 274) (pc' := 281) rfl (hb hby at_274) (by decide) (by decide) ?_
              exact Steps.refl _)⟩
        · exact ⟨_, (by rw [if_neg hq69, if_neg hq71]), c68.trans (by
            show Steps p.tables e below (T59.setTop (mkF m 231 #[.val (.int p0), .val (.int p1), .val (.int p2), .val (.int p3), .val (.int p4), .val (.int p5), .val (.int k3), .val (.ref pk), .val (.int (1 : Int32)), .val (.int (0 : Int32)), .val (.ref x26), .val (.ref x29), .val (.ref x32), .val (.ref x35), .val (.ref b41), .val (.ref b47), .val (.int he), .val (.int (1 : Int32)), .unset, .unset] [(.int k3)])) _
            refine XS.ifYes X59.here hx rfl (pc0 := 231) (pc' := 249) rfl (hb hby at_231) rfl ((if0 _ _).trans (feq hq69).2) (by decide) (by decide) ?_
            refine XS.iload X59.here hx rfl (hb hby at_249) rfl ?_
            refine XS.iconst X59.here hx rfl (hb hby at_251) ?_
            refine XS.icmpYes X59.here hx rfl (pc0 := 252) (pc' := 277) rfl (hb hby at_252) rfl (feq hq71).2 (by decide) (by decide) ?_
            show Steps p.tables e below (T59.setTop (mkF m 277 #[.val (.int p0), .val (.int p1), .val (.int p2), .val (.int p3), .val (.int p4), .val (.int p5), .val (.int k3), .val (.ref pk), .val (.int (1 : Int32)), .val (.int (0 : Int32)), .val (.ref x26), .val (.ref x29), .val (.ref x32), .val (.ref x35), .val (.ref b41), .val (.ref b47), .val (.int he), .val (.int (1 : Int32)), .unset, .unset] [])) _
            refine XS.iload X59.here hx rfl (hb hby at_277) rfl ?_
            refine XS.istore X59.here hx rfl (hb hby at_279) rfl (l' := #[.val (.int p0), .val (.int p1), .val (.int p2), .val (.int p3), .val (.int p4), .val (.int p5), .val (.int k3), .val (.ref pk), .val (.int (1 : Int32)), .val (.int (0 : Int32)), .val (.ref x26), .val (.ref x29), .val (.ref x32), .val (.ref x35), .val (.ref b41), .val (.ref b47), .val (.int he), .val (.int (1 : Int32)), .val (.int (1 : Int32)), .unset]) rfl ?_
            exact Steps.refl _)⟩
    have c75 : Steps p.tables e below S0 (T59.setTop (mkF m 287 #[.val (.int p0), .val (.int p1), .val (.int p2), .val (.int p3), .val (.int p4), .val (.int p5), .val (.int k3), .val (.ref pk), .val (.int (1 : Int32)), .val (.int (0 : Int32)), .val (.ref x26), .val (.ref x29), .val (.ref x32), .val (.ref x35), .val (.ref b41), .val (.ref b47), .val (.int he), .val (.int (1 : Int32)), .val (.int ex), .unset] [(.int (0 : Int32)), (.ref b41), (.ref pk)])) := c74.trans (by
      show Steps p.tables e below (T59.setTop (mkF m 281 #[.val (.int p0), .val (.int p1), .val (.int p2), .val (.int p3), .val (.int p4), .val (.int p5), .val (.int k3), .val (.ref pk), .val (.int (1 : Int32)), .val (.int (0 : Int32)), .val (.ref x26), .val (.ref x29), .val (.ref x32), .val (.ref x35), .val (.ref b41), .val (.ref b47), .val (.int he), .val (.int (1 : Int32)), .val (.int ex), .unset] [])) _
      refine XS.aload X59.here hx rfl (hb hby at_281) rfl rfl ?_
      refine XS.aload X59.here hx rfl (hb hby at_283) rfl rfl ?_
      refine XS.iload X59.here hx rfl (hb hby at_285) rfl ?_
      exact Steps.refl _)
    obtain ⟨cq76, kq76, q76a, q76b, q76c⟩ := isOf hZ35 e59 ((((((((((((xpk.ext X00.2).keep Kq26).keep Kq29).keep Kq32).keep Kq35).ext E41).wr W44).ext E47).wr W50).wr W53).wr W56).wr W59)
    obtain ⟨_, _, ⟨T76, L76, kk76, nn76⟩, -, X76, ⟨Lc76, hQ76, l76, y76, z76⟩, st76⟩ := X59.virtualBack hx (y := (⟨"com/example/libroute/libroute/pattern/ParameterKind", "span", "([Ljava/lang/String;I)I"⟩ : MethodName)) (z := (⟨"com/example/libroute/libroute/pattern/ParameterKind", "span", "([Ljava/lang/String;I)I"⟩ : MethodName)) hown35 (mvT hZ35 (hw _ (List.mem_of_getElem? (i := 57) rfl))) (mvT hZ35 (hw _ (List.mem_of_getElem? (i := 58) rfl))) (notFace_of_selects (args := #[]) (mvT hZ35 (hw _ (List.mem_of_getElem? (i := 60) rfl)))) (mvT hZ35 (hw _ (List.mem_of_getElem? (i := 60) rfl))) (mvT hZ35 (hw _ (List.mem_of_getElem? (i := 59) rfl))) (by decide) (backOf (W := 0) (rmSp l Z a0 hw [] pk b41 rr te (1 : Int32) (0 : Int32) _ [(.ref x26)] x26 t26 kb26 cs26 G1 h59 n0 z59 ((((((((((((Fp.ext X00.2).keep Kq26 nin0).keep Kq29 nin0).keep Kq32 nin0).keep Kq35 nin0).ext E41).other W44 (Or.inl (Nat.ne_of_lt (Nat.lt_of_lt_of_le (Nat.lt_of_lt_of_le (xpk.ext X00.2).lt (Nat.le_trans (Nat.le_trans (Nat.le_trans Kq26.1 Kq29.1) Kq32.1) Kq35.1)) (Nat.le_of_eq g41.symm))))).ext E47).other W50 (Or.inl (Nat.ne_of_lt (Nat.lt_of_lt_of_le (Nat.lt_of_lt_of_le (xpk.ext X00.2).lt (Nat.le_trans (Nat.le_trans (Nat.le_trans (Nat.le_trans (Nat.le_trans Kq26.1 Kq29.1) Kq32.1) Kq35.1) E41.1) (Keep.of_wr W44).1)) (Nat.le_of_eq g47.symm))))).other W53 (Or.inl (Nat.ne_of_lt (Nat.lt_of_lt_of_le (Nat.lt_of_lt_of_le (xpk.ext X00.2).lt (Nat.le_trans (Nat.le_trans (Nat.le_trans (Nat.le_trans (Nat.le_trans Kq26.1 Kq29.1) Kq32.1) Kq35.1) E41.1) (Keep.of_wr W44).1)) (Nat.le_of_eq g47.symm))))).other W56 (Or.inl (Nat.ne_of_lt (Nat.lt_of_lt_of_le (Nat.lt_of_lt_of_le (xpk.ext X00.2).lt (Nat.le_trans (Nat.le_trans (Nat.le_trans (Nat.le_trans (Nat.le_trans Kq26.1 Kq29.1) Kq32.1) Kq35.1) E41.1) (Keep.of_wr W44).1)) (Nat.le_of_eq g47.symm))))).other W59 (Or.inl (Nat.ne_of_lt (Nat.lt_of_lt_of_le (Nat.lt_of_lt_of_le (xpk.ext X00.2).lt (Nat.le_trans (Nat.le_trans (Nat.le_trans (Nat.le_trans (Nat.le_trans Kq26.1 Kq29.1) Kq32.1) Kq35.1) E41.1) (Keep.of_wr W44).1)) (Nat.le_of_eq g47.symm))))) ((((((((((((Gp.ext X00.2).keep Kq26 nin0).keep Kq29 nin0).keep Kq32 nin0).keep Kq35 nin0).ext E41).other W44 (Or.inl (Nat.ne_of_lt (Nat.lt_of_lt_of_le (Nat.lt_of_lt_of_le (xpk.ext X00.2).lt (Nat.le_trans (Nat.le_trans (Nat.le_trans Kq26.1 Kq29.1) Kq32.1) Kq35.1)) (Nat.le_of_eq g41.symm))))).ext E47).other W50 (Or.inl (Nat.ne_of_lt (Nat.lt_of_lt_of_le (Nat.lt_of_lt_of_le (xpk.ext X00.2).lt (Nat.le_trans (Nat.le_trans (Nat.le_trans (Nat.le_trans (Nat.le_trans Kq26.1 Kq29.1) Kq32.1) Kq35.1) E41.1) (Keep.of_wr W44).1)) (Nat.le_of_eq g47.symm))))).other W53 (Or.inl (Nat.ne_of_lt (Nat.lt_of_lt_of_le (Nat.lt_of_lt_of_le (xpk.ext X00.2).lt (Nat.le_trans (Nat.le_trans (Nat.le_trans (Nat.le_trans (Nat.le_trans Kq26.1 Kq29.1) Kq32.1) Kq35.1) E41.1) (Keep.of_wr W44).1)) (Nat.le_of_eq g47.symm))))).other W56 (Or.inl (Nat.ne_of_lt (Nat.lt_of_lt_of_le (Nat.lt_of_lt_of_le (xpk.ext X00.2).lt (Nat.le_trans (Nat.le_trans (Nat.le_trans (Nat.le_trans (Nat.le_trans Kq26.1 Kq29.1) Kq32.1) Kq35.1) E41.1) (Keep.of_wr W44).1)) (Nat.le_of_eq g47.symm))))).other W59 (Or.inl (Nat.ne_of_lt (Nat.lt_of_lt_of_le (Nat.lt_of_lt_of_le (xpk.ext X00.2).lt (Nat.le_trans (Nat.le_trans (Nat.le_trans (Nat.le_trans (Nat.le_trans Kq26.1 Kq29.1) Kq32.1) Kq35.1) E41.1) (Keep.of_wr W44).1)) (Nat.le_of_eq g47.symm))))) (((((V44.ext E47).other W50 (Nat.ne_of_lt (Nat.lt_of_lt_of_le (Nat.lt_of_lt_of_le lt_b41 (Keep.of_wr W44).1) (Nat.le_of_eq g47.symm)))).other W53 (Nat.ne_of_lt (Nat.lt_of_lt_of_le (Nat.lt_of_lt_of_le lt_b41 (Keep.of_wr W44).1) (Nat.le_of_eq g47.symm)))).other W56 (Nat.ne_of_lt (Nat.lt_of_lt_of_le (Nat.lt_of_lt_of_le lt_b41 (Keep.of_wr W44).1) (Nat.le_of_eq g47.symm)))).other W59 (Nat.ne_of_lt (Nat.lt_of_lt_of_le (Nat.lt_of_lt_of_le lt_b41 (Keep.of_wr W44).1) (Nat.le_of_eq g47.symm)))) ⟨by decide, by decide⟩ rfl ⟨((((((((((So26.1.keep Kq29).keep Kq32).keep Kq35).ext E41).wr W44).ext E47).wr W50).wr W53).wr W56).wr W59), ((((((((((So26.2.1.keep Kq29 nin0).keep Kq32 nin0).keep Kq35 nin0).ext E41).other W44 (Or.inl (Nat.ne_of_lt (Nat.lt_of_lt_of_le (Nat.lt_of_lt_of_le lt_x26 (Nat.le_trans (Nat.le_trans Kq29.1 Kq32.1) Kq35.1)) (Nat.le_of_eq g41.symm))))).ext E47).other W50 (Or.inl (Nat.ne_of_lt (Nat.lt_of_lt_of_le (Nat.lt_of_lt_of_le lt_x26 (Nat.le_trans (Nat.le_trans (Nat.le_trans (Nat.le_trans Kq29.1 Kq32.1) Kq35.1) E41.1) (Keep.of_wr W44).1)) (Nat.le_of_eq g47.symm))))).other W53 (Or.inl (Nat.ne_of_lt (Nat.lt_of_lt_of_le (Nat.lt_of_lt_of_le lt_x26 (Nat.le_trans (Nat.le_trans (Nat.le_trans (Nat.le_trans Kq29.1 Kq32.1) Kq35.1) E41.1) (Keep.of_wr W44).1)) (Nat.le_of_eq g47.symm))))).other W56 (Or.inl (Nat.ne_of_lt (Nat.lt_of_lt_of_le (Nat.lt_of_lt_of_le lt_x26 (Nat.le_trans (Nat.le_trans (Nat.le_trans (Nat.le_trans Kq29.1 Kq32.1) Kq35.1) E41.1) (Keep.of_wr W44).1)) (Nat.le_of_eq g47.symm))))).other W59 (Or.inl (Nat.ne_of_lt (Nat.lt_of_lt_of_le (Nat.lt_of_lt_of_le lt_x26 (Nat.le_trans (Nat.le_trans (Nat.le_trans (Nat.le_trans Kq29.1 Kq32.1) Kq35.1) E41.1) (Keep.of_wr W44).1)) (Nat.le_of_eq g47.symm))))), ((((((((((So26.2.2.1.keep Kq29 nin0).keep Kq32 nin0).keep Kq35 nin0).ext E41).other W44 (Or.inl (Nat.ne_of_lt (Nat.lt_of_lt_of_le (Nat.lt_of_lt_of_le lt_x26 (Nat.le_trans (Nat.le_trans Kq29.1 Kq32.1) Kq35.1)) (Nat.le_of_eq g41.symm))))).ext E47).other W50 (Or.inl (Nat.ne_of_lt (Nat.lt_of_lt_of_le (Nat.lt_of_lt_of_le lt_x26 (Nat.le_trans (Nat.le_trans (Nat.le_trans (Nat.le_trans Kq29.1 Kq32.1) Kq35.1) E41.1) (Keep.of_wr W44).1)) (Nat.le_of_eq g47.symm))))).other W53 (Or.inl (Nat.ne_of_lt (Nat.lt_of_lt_of_le (Nat.lt_of_lt_of_le lt_x26 (Nat.le_trans (Nat.le_trans (Nat.le_trans (Nat.le_trans Kq29.1 Kq32.1) Kq35.1) E41.1) (Keep.of_wr W44).1)) (Nat.le_of_eq g47.symm))))).other W56 (Or.inl (Nat.ne_of_lt (Nat.lt_of_lt_of_le (Nat.lt_of_lt_of_le lt_x26 (Nat.le_trans (Nat.le_trans (Nat.le_trans (Nat.le_trans Kq29.1 Kq32.1) Kq35.1) E41.1) (Keep.of_wr W44).1)) (Nat.le_of_eq g47.symm))))).other W59 (Or.inl (Nat.ne_of_lt (Nat.lt_of_lt_of_le (Nat.lt_of_lt_of_le lt_x26 (Nat.le_trans (Nat.le_trans (Nat.le_trans (Nat.le_trans Kq29.1 Kq32.1) Kq35.1) E41.1) (Keep.of_wr W44).1)) (Nat.le_of_eq g47.symm))))), ((((((((((So26.2.2.2.1.keep Kq29 nin0).keep Kq32 nin0).keep Kq35 nin0).ext E41).other W44 (Nat.ne_of_lt (Nat.lt_of_lt_of_le (Nat.lt_of_lt_of_le lt_t26 (Nat.le_trans (Nat.le_trans Kq29.1 Kq32.1) Kq35.1)) (Nat.le_of_eq g41.symm)))).ext E47).other W50 (Nat.ne_of_lt (Nat.lt_of_lt_of_le (Nat.lt_of_lt_of_le lt_t26 (Nat.le_trans (Nat.le_trans (Nat.le_trans (Nat.le_trans Kq29.1 Kq32.1) Kq35.1) E41.1) (Keep.of_wr W44).1)) (Nat.le_of_eq g47.symm)))).other W53 (Nat.ne_of_lt (Nat.lt_of_lt_of_le (Nat.lt_of_lt_of_le lt_t26 (Nat.le_trans (Nat.le_trans (Nat.le_trans (Nat.le_trans Kq29.1 Kq32.1) Kq35.1) E41.1) (Keep.of_wr W44).1)) (Nat.le_of_eq g47.symm)))).other W56 (Nat.ne_of_lt (Nat.lt_of_lt_of_le (Nat.lt_of_lt_of_le lt_t26 (Nat.le_trans (Nat.le_trans (Nat.le_trans (Nat.le_trans Kq29.1 Kq32.1) Kq35.1) E41.1) (Keep.of_wr W44).1)) (Nat.le_of_eq g47.symm)))).other W59 (Nat.ne_of_lt (Nat.lt_of_lt_of_le (Nat.lt_of_lt_of_le lt_t26 (Nat.le_trans (Nat.le_trans (Nat.le_trans (Nat.le_trans Kq29.1 Kq32.1) Kq35.1) E41.1) (Keep.of_wr W44).1)) (Nat.le_of_eq g47.symm)))), So26.2.2.2.2.1, So26.2.2.2.2.2⟩ O2 P5 (((((((((((X00.keep Kq26 all0).keep Kq29 all0).keep Kq32 all0).keep Kq35 all0).ext E41).wr W44 (Nat.le_trans Z0 (Nat.le_trans K35.1 (Nat.le_of_eq g41.symm)))).ext E47).wr W50 (Nat.le_trans Z0 (Nat.le_trans K44.1 (Nat.le_of_eq g47.symm)))).wr W53 (Nat.le_trans Z0 (Nat.le_trans K44.1 (Nat.le_of_eq g47.symm)))).wr W56 (Nat.le_trans Z0 (Nat.le_trans K44.1 (Nat.le_of_eq g47.symm)))).wr W59 (Nat.le_trans Z0 (Nat.le_trans K44.1 (Nat.le_of_eq g47.symm))))) hZ35 (hw _ (List.mem_of_getElem? (i := 61) rfl)) (hw _ (List.mem_of_getElem? (i := 2) rfl)) (by decide) (by decide)) q76a q76c (g := (mkF m 287 #[.val (.int p0), .val (.int p1), .val (.int p2), .val (.int p3), .val (.int p4), .val (.int p5), .val (.int k3), .val (.ref pk), .val (.int (1 : Int32)), .val (.int (0 : Int32)), .val (.ref x26), .val (.ref x29), .val (.ref x32), .val (.ref x35), .val (.ref b41), .val (.ref b47), .val (.int he), .val (.int (1 : Int32)), .val (.int ex), .unset] [(.int (0 : Int32)), (.ref b41), (.ref pk)])) rfl (by rw [hml]; rfl) (Steps.refl _) (argsL := [(.ref b41), (.int (0 : Int32))]) (rest := []) (lenOf pd_oaLjavaslangsStringeIcI rfl) rfl (by show 2 * 0 + _ ≤ _; exact Nat.le_of_eq rfl) (hb hby at_287) (fun _ _ => ⟨rfl, e59, (by decide : 26 + 0 ≤ _), (by decide : 53 + 0 ≤ _)⟩)
    dsimp only [Pt.U, Pt.locs, Pt.cells, Pt.slots] at X76 l76 y76 z76 st76 hQ76
    subst l76 y76 z76
    obtain ⟨rfl, Nq76, eq76⟩ := hQ76
    have c77 : Steps p.tables e below S0 (T76.setTop (mkF m 290 #[.val (.int p0), .val (.int p1), .val (.int p2), .val (.int p3), .val (.int p4), .val (.int p5), .val (.int k3), .val (.ref pk), .val (.int (1 : Int32)), .val (.int (0 : Int32)), .val (.ref x26), .val (.ref x29), .val (.ref x32), .val (.ref x35), .val (.ref b41), .val (.ref b47), .val (.int he), .val (.int (1 : Int32)), .val (.int ex), .unset] [(.int (own_span rr te (1 : Int32) (0 : Int32) cs26.length))])) := c75.trans (st76)
    have N76 := Fr.app N59 Nq76
    have c78 : Steps p.tables e below S0 (T76.setTop (mkF m 304 #[.val (.int p0), .val (.int p1), .val (.int p2), .val (.int p3), .val (.int p4), .val (.int p5), .val (.int k3), .val (.ref pk), .val (.int (1 : Int32)), .val (.int (0 : Int32)), .val (.ref x26), .val (.ref x29), .val (.ref x32), .val (.ref x35), .val (.ref b41), .val (.ref b47), .val (.int he), .val (.int (1 : Int32)), .val (.int ex), .val (.int (own_span rr te (1 : Int32) (0 : Int32) cs26.length))] [(.int (1 : Int32))])) := c77.trans (by
      show Steps p.tables e below (T76.setTop (mkF m 290 #[.val (.int p0), .val (.int p1), .val (.int p2), .val (.int p3), .val (.int p4), .val (.int p5), .val (.int k3), .val (.ref pk), .val (.int (1 : Int32)), .val (.int (0 : Int32)), .val (.ref x26), .val (.ref x29), .val (.ref x32), .val (.ref x35), .val (.ref b41), .val (.ref b47), .val (.int he), .val (.int (1 : Int32)), .val (.int ex), .unset] [(.int (own_span rr te (1 : Int32) (0 : Int32) cs26.length))])) _
      refine XS.istore X76.here hx rfl (hb hby at_290) rfl (l' := #[.val (.int p0), .val (.int p1), .val (.int p2), .val (.int p3), .val (.int p4), .val (.int p5), .val (.int k3), .val (.ref pk), .val (.int (1 : Int32)), .val (.int (0 : Int32)), .val (.ref x26), .val (.ref x29), .val (.ref x32), .val (.ref x35), .val (.ref b41), .val (.ref b47), .val (.int he), .val (.int (1 : Int32)), .val (.int ex), .val (.int (own_span rr te (1 : Int32) (0 : Int32) cs26.length))]) rfl ?_
      refine XS.iload X76.here hx rfl (hb hby at_292) rfl ?_
      refine XS.iload X76.here hx rfl (hb hby at_294) rfl ?_
      refine XS.icmpNo X76.here hx rfl (hb hby at_296) rfl (teq (own_ex10 hkk em26 hhe hex)).2 ?_
      show Steps p.tables e below (T76.setTop (mkF m 299 #[.val (.int p0), .val (.int p1), .val (.int p2), .val (.int p3), .val (.int p4), .val (.int p5), .val (.int k3), .val (.ref pk), .val (.int (1 : Int32)), .val (.int (0 : Int32)), .val (.ref x26), .val (.ref x29), .val (.ref x32), .val (.ref x35), .val (.ref b41), .val (.ref b47), .val (.int he), .val (.int (1 : Int32)), .val (.int ex), .val (.int (own_span rr te (1 : Int32) (0 : Int32) cs26.length))] [])) _
      refine XS.iconst X76.here hx rfl (hb hby at_299) ?_
      refine XS.goto X76.here hx rfl (pc0 := 300) (pc' := 304) rfl (hb hby at_300) (by decide) (by decide) ?_
      exact Steps.refl _)
    obtain ⟨fs, hr, hrun, hended, hW⟩ := X76.leaveW hS35 (by rw [eq76]; exact (Nat.le_trans (Nat.le_refl _) (Nat.le_trans (Nat.le_trans (Nat.le_trans (Nat.le_trans (Nat.le_trans (Nat.le_trans E41.1 (Keep.of_wr W44).1) E47.1) (Keep.of_wr W50).1) (Keep.of_wr W53).1) (Keep.of_wr W56).1) (Keep.of_wr W59).1))) (v := some (.int (1 : Int32))) (fun h => by rw [Bd.returns] at h; cases h)
    refine ⟨_, _, c78.trans (retOut X76 hx Bd.returns rfl (Or.inl ⟨rfl, by simp, _, rfl⟩) (hb hby at_304) hr), hrun, hended, _, _, rfl, ?_, ?_, hW.1, hW.2.1, hW.2.2.1, hW.2.2.2.mono (by decide) (by decide)⟩
    · show Q0 Z  h0 n0 _ T76.heap _
      rw [eq76]
      exact ⟨rfl, N76⟩
    · show CHr Z EL s.vm s.heap T76.vm T76.heap
      rw [hh, eq76]; exact R59.trans (CHv.at X76 hZ35 hEL R59.1)
  · have c79 : Steps p.tables e below S0 (T35.setTop (mkF m 104 #[.val (.int p0), .val (.int p1), .val (.int p2), .val (.int p3), .val (.int p4), .val (.int p5), .val (.int k3), .val (.ref pk), .val (.int nn), .val (.int ix), .val (.ref x26), .val (.ref x29), .val (.ref x32), .val (.ref x35), .unset, .unset, .unset, .unset, .unset, .unset] [(.int (2 : Int32)), (.int nn)])) := c37.trans (by
      show Steps p.tables e below (T35.setTop (mkF m 84 #[.val (.int p0), .val (.int p1), .val (.int p2), .val (.int p3), .val (.int p4), .val (.int p5), .val (.int k3), .val (.ref pk), .val (.int nn), .val (.int ix), .val (.ref x26), .val (.ref x29), .val (.ref x32), .val (.ref x35), .unset, .unset, .unset, .unset, .unset, .unset] [(.int (1 : Int32)), (.int nn)])) _
      refine XS.icmpYes X35.here hx rfl (pc0 := 84) (pc' := 101) rfl (hb hby at_84) rfl (feq hq38).2 (by decide) (by decide) ?_
      refine XS.iload X35.here hx rfl (hb hby at_101) rfl ?_
      refine XS.iconst X35.here hx rfl (hb hby at_103) ?_
      exact Steps.refl _)
    by_cases hq80 : nn = (2 : Int32)
    · have c81 : Steps p.tables e below S0 (T35.setTop (mkF m 107 #[.val (.int p0), .val (.int p1), .val (.int p2), .val (.int p3), .val (.int p4), .val (.int p5), .val (.int k3), .val (.ref pk), .val (.int nn), .val (.int ix), .val (.ref x26), .val (.ref x29), .val (.ref x32), .val (.ref x35), .unset, .unset, .unset, .unset, .unset, .unset] [])) := c79.trans (by
        show Steps p.tables e below (T35.setTop (mkF m 104 #[.val (.int p0), .val (.int p1), .val (.int p2), .val (.int p3), .val (.int p4), .val (.int p5), .val (.int k3), .val (.ref pk), .val (.int nn), .val (.int ix), .val (.ref x26), .val (.ref x29), .val (.ref x32), .val (.ref x35), .unset, .unset, .unset, .unset, .unset, .unset] [(.int (2 : Int32)), (.int nn)])) _
        refine XS.icmpNo X35.here hx rfl (hb hby at_104) rfl (teq hq80).2 ?_
        exact Steps.refl _)
      rw [hq80] at c81
      have hix3 := own_ix2 (hq80 ▸ hix2)
      have c82 : Steps p.tables e below S0 (T35.setTop (mkF m 108 #[.val (.int p0), .val (.int p1), .val (.int p2), .val (.int p3), .val (.int p4), .val (.int p5), .val (.int k3), .val (.ref pk), .val (.int (2 : Int32)), .val (.int ix), .val (.ref x26), .val (.ref x29), .val (.ref x32), .val (.ref x35), .unset, .unset, .unset, .unset, .unset, .unset] [(.int (2 : Int32))])) := c81.trans (by
        show Steps p.tables e below (T35.setTop (mkF m 107 #[.val (.int p0), .val (.int p1), .val (.int p2), .val (.int p3), .val (.int p4), .val (.int p5), .val (.int k3), .val (.ref pk), .val (.int (2 : Int32)), .val (.int ix), .val (.ref x26), .val (.ref x29), .val (.ref x32), .val (.ref x35), .unset, .unset, .unset, .unset, .unset, .unset] [])) _
        refine XS.iconst X35.here hx rfl (hb hby at_107) ?_
        exact Steps.refl _)
      obtain ⟨T83, h83, k83, X83, e83, E83, A83, O83, st83⟩ := newR X35 hx hZ35 hown35 (hw _ (List.mem_of_getElem? (i := 8) rfl)) (hw _ (List.mem_of_getElem? (i := 55) rfl)) rfl (g := (mkF m 108 #[.val (.int p0), .val (.int p1), .val (.int p2), .val (.int p3), .val (.int p4), .val (.int p5), .val (.int k3), .val (.ref pk), .val (.int (2 : Int32)), .val (.int ix), .val (.ref x26), .val (.ref x29), .val (.ref x32), .val (.ref x35), .unset, .unset, .unset, .unset, .unset, .unset] [(.int (2 : Int32))])) rfl (hb hby at_108) rfl (by decide) (cap := 2) (by decide) (by decide) (by decide) (by decide)
      obtain ⟨b83, g83⟩ : ∃ z, z = T35.heap.size := ⟨_, rfl⟩
      rw [← g83] at A83 st83
      have c84 : Steps p.tables e below S0 (T83.setTop (mkF m 111 #[.val (.int p0), .val (.int p1), .val (.int p2), .val (.int p3), .val (.int p4), .val (.int p5), .val (.int k3), .val (.ref pk), .val (.int (2 : Int32)), .val (.int ix), .val (.ref x26), .val (.ref x29), .val (.ref x32), .val (.ref x35), .unset, .unset, .unset, .unset, .unset, .unset] [(.ref b83)])) := c82.trans (st83 _ (Steps.refl _))
      have z83 : n0 ≤ h83.size := Nat.le_trans z35 E83.1
      have K83 := K35.ext E83
      have r83 : CHr Z EL T35.vm T35.heap T35.vm h83 := CHr.ext E83 R35.1
      have R83 := R35.trans r83
      have V83 : Arv Z h83 b83 k83 (.object "java/lang/String") (2 : Int32) [.null, .null] .null := (Arv.new A83 (by decide)).pad (pad_rep [] .null 2)
      have lt_b83 : b83 < h83.size := V83.lt
      have c85 : Steps p.tables e below S0 (T83.setTop (mkF m 115 #[.val (.int p0), .val (.int p1), .val (.int p2), .val (.int p3), .val (.int p4), .val (.int p5), .val (.int k3), .val (.ref pk), .val (.int (2 : Int32)), .val (.int ix), .val (.ref x26), .val (.ref x29), .val (.ref x32), .val (.ref x35), .unset, .unset, .unset, .unset, .unset, .unset] [(.ref x26), (.int (0 : Int32)), (.ref b83), (.ref b83)])) := c84.trans (by
        show Steps p.tables e below (T83.setTop (mkF m 111 #[.val (.int p0), .val (.int p1), .val (.int p2), .val (.int p3), .val (.int p4), .val (.int p5), .val (.int k3), .val (.ref pk), .val (.int (2 : Int32)), .val (.int ix), .val (.ref x26), .val (.ref x29), .val (.ref x32), .val (.ref x35), .unset, .unset, .unset, .unset, .unset, .unset] [(.ref b83)])) _
        refine XS.dup X83.here hx rfl (hb hby at_111) rfl rfl ?_
        refine XS.iconst X83.here hx rfl (hb hby at_112) ?_
        refine XS.aload X83.here hx rfl (hb hby at_113) rfl rfl ?_
        exact Steps.refl _)
      obtain ⟨cl86, Ar86, q86, S86, Nn86, Ha86, G86⟩ := id V83
      obtain ⟨T86, h86, X86, e86, W86, st86⟩ := stR X83 hx hZ35 e83 Ar86 (j := (0 : Int32)) (inb_of S86 ⟨by decide, by decide⟩) rfl (Sto.ofV Ar86 q86 O83 (Ins.self ((((So26.1.keep Kq29).keep Kq32).keep Kq35).ext E83))) (g := (mkF m 115 #[.val (.int p0), .val (.int p1), .val (.int p2), .val (.int p3), .val (.int p4), .val (.int p5), .val (.int k3), .val (.ref pk), .val (.int (2 : Int32)), .val (.int ix), .val (.ref x26), .val (.ref x29), .val (.ref x32), .val (.ref x35), .unset, .unset, .unset, .unset, .unset, .unset] [(.ref x26), (.int (0 : Int32)), (.ref b83), (.ref b83)])) rfl rfl (hb hby at_115)
      have V86 : Arv Z h86 b83 k83 (.object "java/lang/String") (2 : Int32) [(.ref x26), .null] .null := Arv.set Ar86 q86 S86 Nn86 Ha86 G86 rfl W86 0 rfl (Nat.le_of_ble_eq_true rfl)
      have c87 : Steps p.tables e below S0 (T86.setTop (mkF m 116 #[.val (.int p0), .val (.int p1), .val (.int p2), .val (.int p3), .val (.int p4), .val (.int p5), .val (.int k3), .val (.ref pk), .val (.int (2 : Int32)), .val (.int ix), .val (.ref x26), .val (.ref x29), .val (.ref x32), .val (.ref x35), .unset, .unset, .unset, .unset, .unset, .unset] [(.ref b83)])) := c85.trans (st86 _ (Steps.refl _))
      have N86 := Fr.snoc X86 N35 (Nat.le_trans Z0 (Nat.le_trans K35.1 (Nat.le_of_eq g83.symm)))
      have z86 : n0 ≤ h86.size := Nat.le_trans z83 (Keep.of_wr W86).1
      have K86 := K83.wr W86 (Or.inr (Nat.le_trans K35.1 (Nat.le_of_eq g83.symm)))
      have r86 : CHr Z EL T35.vm h83 T35.vm h86 := CHr.wr W86 (Safe.arv hZ35.alike V83 (by decide)) R83.1
      have R86 := R83.trans r86
      have c88 : Steps p.tables e below S0 (T86.setTop (mkF m 120 #[.val (.int p0), .val (.int p1), .val (.int p2), .val (.int p3), .val (.int p4), .val (.int p5), .val (.int k3), .val (.ref pk), .val (.int (2 : Int32)), .val (.int ix), .val (.ref x26), .val (.ref x29), .val (.ref x32), .val (.ref x35), .unset, .unset, .unset, .unset, .unset, .unset] [(.ref x29), (.int (1 : Int32)), (.ref b83), (.ref b83)])) := c87.trans (by
        show Steps p.tables e below (T86.setTop (mkF m 116 #[.val (.int p0), .val (.int p1), .val (.int p2), .val (.int p3), .val (.int p4), .val (.int p5), .val (.int k3), .val (.ref pk), .val (.int (2 : Int32)), .val (.int ix), .val (.ref x26), .val (.ref x29), .val (.ref x32), .val (.ref x35), .unset, .unset, .unset, .unset, .unset, .unset] [(.ref b83)])) _
        refine XS.dup X86.here hx rfl (hb hby at_116) rfl rfl ?_
        refine XS.iconst X86.here hx rfl (hb hby at_117) ?_
        refine XS.aload X86.here hx rfl (hb hby at_118) rfl rfl ?_
        exact Steps.refl _)
      obtain ⟨cl89, Ar89, q89, S89, Nn89, Ha89, G89⟩ := id V86
      obtain ⟨T89, h89, X89, e89, W89, st89⟩ := stR X86 hx hZ35 e86 Ar89 (j := (1 : Int32)) (inb_of S89 ⟨by decide, by decide⟩) rfl (Sto.ofV Ar89 q89 O83 (Ins.self ((((So29.1.keep Kq32).keep Kq35).ext E83).wr W86))) (g := (mkF m 120 #[.val (.int p0), .val (.int p1), .val (.int p2), .val (.int p3), .val (.int p4), .val (.int p5), .val (.int k3), .val (.ref pk), .val (.int (2 : Int32)), .val (.int ix), .val (.ref x26), .val (.ref x29), .val (.ref x32), .val (.ref x35), .unset, .unset, .unset, .unset, .unset, .unset] [(.ref x29), (.int (1 : Int32)), (.ref b83), (.ref b83)])) rfl rfl (hb hby at_120)
      have V89 : Arv Z h89 b83 k83 (.object "java/lang/String") (2 : Int32) [(.ref x26), (.ref x29)] .null := Arv.set Ar89 q89 S89 Nn89 Ha89 G89 rfl W89 1 rfl (Nat.le_of_ble_eq_true rfl)
      have c90 : Steps p.tables e below S0 (T89.setTop (mkF m 121 #[.val (.int p0), .val (.int p1), .val (.int p2), .val (.int p3), .val (.int p4), .val (.int p5), .val (.int k3), .val (.ref pk), .val (.int (2 : Int32)), .val (.int ix), .val (.ref x26), .val (.ref x29), .val (.ref x32), .val (.ref x35), .unset, .unset, .unset, .unset, .unset, .unset] [(.ref b83)])) := c88.trans (st89 _ (Steps.refl _))
      have N89 := Fr.snoc X89 N86 (Nat.le_trans Z0 (Nat.le_trans K35.1 (Nat.le_of_eq g83.symm)))
      have z89 : n0 ≤ h89.size := Nat.le_trans z86 (Keep.of_wr W89).1
      have K89 := K86.wr W89 (Or.inr (Nat.le_trans K35.1 (Nat.le_of_eq g83.symm)))
      have r89 : CHr Z EL T35.vm h86 T35.vm h89 := CHr.wr W89 (Safe.arv hZ35.alike V86 (by decide)) R86.1
      have R89 := R86.trans r89
      have c91 : Steps p.tables e below S0 (T89.setTop (mkF m 183 #[.val (.int p0), .val (.int p1), .val (.int p2), .val (.int p3), .val (.int p4), .val (.int p5), .val (.int k3), .val (.ref pk), .val (.int (2 : Int32)), .val (.int ix), .val (.ref x26), .val (.ref x29), .val (.ref x32), .val (.ref x35), .val (.ref b83), .unset, .unset, .unset, .unset, .unset] [(.int (4 : Int32))])) := c90.trans (by
        show Steps p.tables e below (T89.setTop (mkF m 121 #[.val (.int p0), .val (.int p1), .val (.int p2), .val (.int p3), .val (.int p4), .val (.int p5), .val (.int k3), .val (.ref pk), .val (.int (2 : Int32)), .val (.int ix), .val (.ref x26), .val (.ref x29), .val (.ref x32), .val (.ref x35), .unset, .unset, .unset, .unset, .unset, .unset] [(.ref b83)])) _
        refine XS.astore X89.here hx rfl (hb hby at_121) rfl rfl (l' := #[.val (.int p0), .val (.int p1), .val (.int p2), .val (.int p3), .val (.int p4), .val (.int p5), .val (.int k3), .val (.ref pk), .val (.int (2 : Int32)), .val (.int ix), .val (.ref x26), .val (.ref x29), .val (.ref x32), .val (.ref x35), .val (.ref b83), .unset, .unset, .unset, .unset, .unset]) rfl ?_
        refine XS.goto X89.here hx rfl (pc0 := 123) (pc' := 182) rfl (hb hby at_123) (by decide) (by decide) ?_
        refine XS.iconst X89.here hx rfl (hb hby at_182) ?_
        exact Steps.refl _)
      obtain ⟨T92, h92, k92, X92, e92, E92, A92, st92⟩ := newP X89 hx hZ35 (hw _ (List.mem_of_getElem? (i := 56) rfl)) e89 (g := (mkF m 183 #[.val (.int p0), .val (.int p1), .val (.int p2), .val (.int p3), .val (.int p4), .val (.int p5), .val (.int k3), .val (.ref pk), .val (.int (2 : Int32)), .val (.int ix), .val (.ref x26), .val (.ref x29), .val (.ref x32), .val (.ref x35), .val (.ref b83), .unset, .unset, .unset, .unset, .unset] [(.int (4 : Int32))])) rfl (hb hby at_183) rfl (by decide) (cap := 4) (by decide) (by decide) (by decide) (by decide)
      obtain ⟨b92, g92⟩ : ∃ z, z = h89.size := ⟨_, rfl⟩
      rw [← g92] at A92 st92
      have c93 : Steps p.tables e below S0 (T92.setTop (mkF m 185 #[.val (.int p0), .val (.int p1), .val (.int p2), .val (.int p3), .val (.int p4), .val (.int p5), .val (.int k3), .val (.ref pk), .val (.int (2 : Int32)), .val (.int ix), .val (.ref x26), .val (.ref x29), .val (.ref x32), .val (.ref x35), .val (.ref b83), .unset, .unset, .unset, .unset, .unset] [(.ref b92)])) := c91.trans (st92 _ (Steps.refl _))
      have z92 : n0 ≤ h92.size := Nat.le_trans z89 E92.1
      have K92 := K89.ext E92
      have r92 : CHr Z EL T35.vm h89 T35.vm h92 := CHr.ext E92 R89.1
      have R92 := R89.trans r92
      have V92 : Arv Z h92 b92 k92 .int (4 : Int32) [(.int (0 : Int32)), (.int (0 : Int32)), (.int (0 : Int32)), (.int (0 : Int32))] (.int (0 : Int32)) := (Arv.new A92 (by decide)).pad (pad_rep [] (.int (0 : Int32)) 4)
      have lt_b92 : b92 < h92.size := V92.lt
      have c94 : Steps p.tables e below S0 (T92.setTop (mkF m 188 #[.val (.int p0), .val (.int p1), .val (.int p2), .val (.int p3), .val (.int p4), .val (.int p5), .val (.int k3), .val (.ref pk), .val (.int (2 : Int32)), .val (.int ix), .val (.ref x26), .val (.ref x29), .val (.ref x32), .val (.ref x35), .val (.ref b83), .unset, .unset, .unset, .unset, .unset] [(.int p2), (.int (0 : Int32)), (.ref b92), (.ref b92)])) := c93.trans (by
        show Steps p.tables e below (T92.setTop (mkF m 185 #[.val (.int p0), .val (.int p1), .val (.int p2), .val (.int p3), .val (.int p4), .val (.int p5), .val (.int k3), .val (.ref pk), .val (.int (2 : Int32)), .val (.int ix), .val (.ref x26), .val (.ref x29), .val (.ref x32), .val (.ref x35), .val (.ref b83), .unset, .unset, .unset, .unset, .unset] [(.ref b92)])) _
        refine XS.dup X92.here hx rfl (hb hby at_185) rfl rfl ?_
        refine XS.iconst X92.here hx rfl (hb hby at_186) ?_
        refine XS.iloadN X92.here hx rfl (hb hby at_187) rfl ?_
        exact Steps.refl _)
      obtain ⟨cl95, Ar95, q95, S95, Nn95, Ha95, G95⟩ := id V92
      obtain ⟨T95, h95, X95, e95, W95, st95⟩ := stI X92 hx hZ35 e92 Ar95 (j := (0 : Int32)) (inb_of S95 ⟨by decide, by decide⟩) (g := (mkF m 188 #[.val (.int p0), .val (.int p1), .val (.int p2), .val (.int p3), .val (.int p4), .val (.int p5), .val (.int k3), .val (.ref pk), .val (.int (2 : Int32)), .val (.int ix), .val (.ref x26), .val (.ref x29), .val (.ref x32), .val (.ref x35), .val (.ref b83), .unset, .unset, .unset, .unset, .unset] [(.int p2), (.int (0 : Int32)), (.ref b92), (.ref b92)])) rfl rfl (hb hby at_188)
      have V95 : Arv Z h95 b92 k92 .int (4 : Int32) [(.int p2), (.int (0 : Int32)), (.int (0 : Int32)), (.int (0 : Int32))] (.int (0 : Int32)) := Arv.set Ar95 q95 S95 Nn95 Ha95 G95 rfl W95 0 rfl (Nat.le_of_ble_eq_true rfl)
      have c96 : Steps p.tables e below S0 (T95.setTop (mkF m 189 #[.val (.int p0), .val (.int p1), .val (.int p2), .val (.int p3), .val (.int p4), .val (.int p5), .val (.int k3), .val (.ref pk), .val (.int (2 : Int32)), .val (.int ix), .val (.ref x26), .val (.ref x29), .val (.ref x32), .val (.ref x35), .val (.ref b83), .unset, .unset, .unset, .unset, .unset] [(.ref b92)])) := c94.trans (st95 _ (Steps.refl _))
      have N95 := Fr.snoc X95 N89 (Nat.le_trans Z0 (Nat.le_trans K89.1 (Nat.le_of_eq g92.symm)))
      have z95 : n0 ≤ h95.size := Nat.le_trans z92 (Keep.of_wr W95).1
      have K95 := K92.wr W95 (Or.inr (Nat.le_trans K89.1 (Nat.le_of_eq g92.symm)))
      have r95 : CHr Z EL T35.vm h92 T35.vm h95 := CHr.wr W95 (Safe.arv hZ35.alike V92 (by decide)) R92.1
      have R95 := R92.trans r95
      have c97 : Steps p.tables e below S0 (T95.setTop (mkF m 192 #[.val (.int p0), .val (.int p1), .val (.int p2), .val (.int p3), .val (.int p4), .val (.int p5), .val (.int k3), .val (.ref pk), .val (.int (2 : Int32)), .val (.int ix), .val (.ref x26), .val (.ref x29), .val (.ref x32), .val (.ref x35), .val (.ref b83), .unset, .unset, .unset, .unset, .unset] [(.int p3), (.int (1 : Int32)), (.ref b92), (.ref b92)])) := c96.trans (by
        show Steps p.tables e below (T95.setTop (mkF m 189 #[.val (.int p0), .val (.int p1), .val (.int p2), .val (.int p3), .val (.int p4), .val (.int p5), .val (.int k3), .val (.ref pk), .val (.int (2 : Int32)), .val (.int ix), .val (.ref x26), .val (.ref x29), .val (.ref x32), .val (.ref x35), .val (.ref b83), .unset, .unset, .unset, .unset, .unset] [(.ref b92)])) _
        refine XS.dup X95.here hx rfl (hb hby at_189) rfl rfl ?_
        refine XS.iconst X95.here hx rfl (hb hby at_190) ?_
        refine XS.iloadN X95.here hx rfl (hb hby at_191) rfl ?_
        exact Steps.refl _)
      obtain ⟨cl98, Ar98, q98, S98, Nn98, Ha98, G98⟩ := id V95
      obtain ⟨T98, h98, X98, e98, W98, st98⟩ := stI X95 hx hZ35 e95 Ar98 (j := (1 : Int32)) (inb_of S98 ⟨by decide, by decide⟩) (g := (mkF m 192 #[.val (.int p0), .val (.int p1), .val (.int p2), .val (.int p3), .val (.int p4), .val (.int p5), .val (.int k3), .val (.ref pk), .val (.int (2 : Int32)), .val (.int ix), .val (.ref x26), .val (.ref x29), .val (.ref x32), .val (.ref x35), .val (.ref b83), .unset, .unset, .unset, .unset, .unset] [(.int p3), (.int (1 : Int32)), (.ref b92), (.ref b92)])) rfl rfl (hb hby at_192)
      have V98 : Arv Z h98 b92 k92 .int (4 : Int32) [(.int p2), (.int p3), (.int (0 : Int32)), (.int (0 : Int32))] (.int (0 : Int32)) := Arv.set Ar98 q98 S98 Nn98 Ha98 G98 rfl W98 1 rfl (Nat.le_of_ble_eq_true rfl)
      have c99 : Steps p.tables e below S0 (T98.setTop (mkF m 193 #[.val (.int p0), .val (.int p1), .val (.int p2), .val (.int p3), .val (.int p4), .val (.int p5), .val (.int k3), .val (.ref pk), .val (.int (2 : Int32)), .val (.int ix), .val (.ref x26), .val (.ref x29), .val (.ref x32), .val (.ref x35), .val (.ref b83), .unset, .unset, .unset, .unset, .unset] [(.ref b92)])) := c97.trans (st98 _ (Steps.refl _))
      have N98 := Fr.snoc X98 N95 (Nat.le_trans Z0 (Nat.le_trans K89.1 (Nat.le_of_eq g92.symm)))
      have z98 : n0 ≤ h98.size := Nat.le_trans z95 (Keep.of_wr W98).1
      have K98 := K95.wr W98 (Or.inr (Nat.le_trans K89.1 (Nat.le_of_eq g92.symm)))
      have r98 : CHr Z EL T35.vm h95 T35.vm h98 := CHr.wr W98 (Safe.arv hZ35.alike V95 (by decide)) R95.1
      have R98 := R95.trans r98
      have c100 : Steps p.tables e below S0 (T98.setTop (mkF m 197 #[.val (.int p0), .val (.int p1), .val (.int p2), .val (.int p3), .val (.int p4), .val (.int p5), .val (.int k3), .val (.ref pk), .val (.int (2 : Int32)), .val (.int ix), .val (.ref x26), .val (.ref x29), .val (.ref x32), .val (.ref x35), .val (.ref b83), .unset, .unset, .unset, .unset, .unset] [(.int p4), (.int (2 : Int32)), (.ref b92), (.ref b92)])) := c99.trans (by
        show Steps p.tables e below (T98.setTop (mkF m 193 #[.val (.int p0), .val (.int p1), .val (.int p2), .val (.int p3), .val (.int p4), .val (.int p5), .val (.int k3), .val (.ref pk), .val (.int (2 : Int32)), .val (.int ix), .val (.ref x26), .val (.ref x29), .val (.ref x32), .val (.ref x35), .val (.ref b83), .unset, .unset, .unset, .unset, .unset] [(.ref b92)])) _
        refine XS.dup X98.here hx rfl (hb hby at_193) rfl rfl ?_
        refine XS.iconst X98.here hx rfl (hb hby at_194) ?_
        refine XS.iload X98.here hx rfl (hb hby at_195) rfl ?_
        exact Steps.refl _)
      obtain ⟨cl101, Ar101, q101, S101, Nn101, Ha101, G101⟩ := id V98
      obtain ⟨T101, h101, X101, e101, W101, st101⟩ := stI X98 hx hZ35 e98 Ar101 (j := (2 : Int32)) (inb_of S101 ⟨by decide, by decide⟩) (g := (mkF m 197 #[.val (.int p0), .val (.int p1), .val (.int p2), .val (.int p3), .val (.int p4), .val (.int p5), .val (.int k3), .val (.ref pk), .val (.int (2 : Int32)), .val (.int ix), .val (.ref x26), .val (.ref x29), .val (.ref x32), .val (.ref x35), .val (.ref b83), .unset, .unset, .unset, .unset, .unset] [(.int p4), (.int (2 : Int32)), (.ref b92), (.ref b92)])) rfl rfl (hb hby at_197)
      have V101 : Arv Z h101 b92 k92 .int (4 : Int32) [(.int p2), (.int p3), (.int p4), (.int (0 : Int32))] (.int (0 : Int32)) := Arv.set Ar101 q101 S101 Nn101 Ha101 G101 rfl W101 2 rfl (Nat.le_of_ble_eq_true rfl)
      have c102 : Steps p.tables e below S0 (T101.setTop (mkF m 198 #[.val (.int p0), .val (.int p1), .val (.int p2), .val (.int p3), .val (.int p4), .val (.int p5), .val (.int k3), .val (.ref pk), .val (.int (2 : Int32)), .val (.int ix), .val (.ref x26), .val (.ref x29), .val (.ref x32), .val (.ref x35), .val (.ref b83), .unset, .unset, .unset, .unset, .unset] [(.ref b92)])) := c100.trans (st101 _ (Steps.refl _))
      have N101 := Fr.snoc X101 N98 (Nat.le_trans Z0 (Nat.le_trans K89.1 (Nat.le_of_eq g92.symm)))
      have z101 : n0 ≤ h101.size := Nat.le_trans z98 (Keep.of_wr W101).1
      have K101 := K98.wr W101 (Or.inr (Nat.le_trans K89.1 (Nat.le_of_eq g92.symm)))
      have r101 : CHr Z EL T35.vm h98 T35.vm h101 := CHr.wr W101 (Safe.arv hZ35.alike V98 (by decide)) R98.1
      have R101 := R98.trans r101
      have c103 : Steps p.tables e below S0 (T101.setTop (mkF m 202 #[.val (.int p0), .val (.int p1), .val (.int p2), .val (.int p3), .val (.int p4), .val (.int p5), .val (.int k3), .val (.ref pk), .val (.int (2 : Int32)), .val (.int ix), .val (.ref x26), .val (.ref x29), .val (.ref x32), .val (.ref x35), .val (.ref b83), .unset, .unset, .unset, .unset, .unset] [(.int p5), (.int (3 : Int32)), (.ref b92), (.ref b92)])) := c102.trans (by
        show Steps p.tables e below (T101.setTop (mkF m 198 #[.val (.int p0), .val (.int p1), .val (.int p2), .val (.int p3), .val (.int p4), .val (.int p5), .val (.int k3), .val (.ref pk), .val (.int (2 : Int32)), .val (.int ix), .val (.ref x26), .val (.ref x29), .val (.ref x32), .val (.ref x35), .val (.ref b83), .unset, .unset, .unset, .unset, .unset] [(.ref b92)])) _
        refine XS.dup X101.here hx rfl (hb hby at_198) rfl rfl ?_
        refine XS.iconst X101.here hx rfl (hb hby at_199) ?_
        refine XS.iload X101.here hx rfl (hb hby at_200) rfl ?_
        exact Steps.refl _)
      obtain ⟨cl104, Ar104, q104, S104, Nn104, Ha104, G104⟩ := id V101
      obtain ⟨T104, h104, X104, e104, W104, st104⟩ := stI X101 hx hZ35 e101 Ar104 (j := (3 : Int32)) (inb_of S104 ⟨by decide, by decide⟩) (g := (mkF m 202 #[.val (.int p0), .val (.int p1), .val (.int p2), .val (.int p3), .val (.int p4), .val (.int p5), .val (.int k3), .val (.ref pk), .val (.int (2 : Int32)), .val (.int ix), .val (.ref x26), .val (.ref x29), .val (.ref x32), .val (.ref x35), .val (.ref b83), .unset, .unset, .unset, .unset, .unset] [(.int p5), (.int (3 : Int32)), (.ref b92), (.ref b92)])) rfl rfl (hb hby at_202)
      have V104 : Arv Z h104 b92 k92 .int (4 : Int32) [(.int p2), (.int p3), (.int p4), (.int p5)] (.int (0 : Int32)) := Arv.set Ar104 q104 S104 Nn104 Ha104 G104 rfl W104 3 rfl (Nat.le_of_ble_eq_true rfl)
      have c105 : Steps p.tables e below S0 (T104.setTop (mkF m 203 #[.val (.int p0), .val (.int p1), .val (.int p2), .val (.int p3), .val (.int p4), .val (.int p5), .val (.int k3), .val (.ref pk), .val (.int (2 : Int32)), .val (.int ix), .val (.ref x26), .val (.ref x29), .val (.ref x32), .val (.ref x35), .val (.ref b83), .unset, .unset, .unset, .unset, .unset] [(.ref b92)])) := c103.trans (st104 _ (Steps.refl _))
      have N104 := Fr.snoc X104 N101 (Nat.le_trans Z0 (Nat.le_trans K89.1 (Nat.le_of_eq g92.symm)))
      have z104 : n0 ≤ h104.size := Nat.le_trans z101 (Keep.of_wr W104).1
      have K104 := K101.wr W104 (Or.inr (Nat.le_trans K89.1 (Nat.le_of_eq g92.symm)))
      have r104 : CHr Z EL T35.vm h101 T35.vm h104 := CHr.wr W104 (Safe.arv hZ35.alike V101 (by decide)) R101.1
      have R104 := R101.trans r104
      have c106 : Steps p.tables e below S0 (T104.setTop (mkF m 205 #[.val (.int p0), .val (.int p1), .val (.int p2), .val (.int p3), .val (.int p4), .val (.int p5), .val (.int k3), .val (.ref pk), .val (.int (2 : Int32)), .val (.int ix), .val (.ref x26), .val (.ref x29), .val (.ref x32), .val (.ref x35), .val (.ref b83), .val (.ref b92), .unset, .unset, .unset, .unset] [])) := c105.trans (by
        show Steps p.tables e below (T104.setTop (mkF m 203 #[.val (.int p0), .val (.int p1), .val (.int p2), .val (.int p3), .val (.int p4), .val (.int p5), .val (.int k3), .val (.ref pk), .val (.int (2 : Int32)), .val (.int ix), .val (.ref x26), .val (.ref x29), .val (.ref x32), .val (.ref x35), .val (.ref b83), .unset, .unset, .unset, .unset, .unset] [(.ref b92)])) _
        refine XS.astore X104.here hx rfl (hb hby at_203) rfl rfl (l' := #[.val (.int p0), .val (.int p1), .val (.int p2), .val (.int p3), .val (.int p4), .val (.int p5), .val (.int k3), .val (.ref pk), .val (.int (2 : Int32)), .val (.int ix), .val (.ref x26), .val (.ref x29), .val (.ref x32), .val (.ref x35), .val (.ref b83), .val (.ref b92), .unset, .unset, .unset, .unset]) rfl ?_
        exact Steps.refl _)
      rcases hix3 with ei | ei
      · rw [ei] at c106
        have c107 : Steps p.tables e below S0 (T104.setTop (mkF m 209 #[.val (.int p0), .val (.int p1), .val (.int p2), .val (.int p3), .val (.int p4), .val (.int p5), .val (.int k3), .val (.ref pk), .val (.int (2 : Int32)), .val (.int (0 : Int32)), .val (.ref x26), .val (.ref x29), .val (.ref x32), .val (.ref x35), .val (.ref b83), .val (.ref b92), .unset, .unset, .unset, .unset] [(.int (0 : Int32)), (.ref b92)])) := c106.trans (by
          show Steps p.tables e below (T104.setTop (mkF m 205 #[.val (.int p0), .val (.int p1), .val (.int p2), .val (.int p3), .val (.int p4), .val (.int p5), .val (.int k3), .val (.ref pk), .val (.int (2 : Int32)), .val (.int (0 : Int32)), .val (.ref x26), .val (.ref x29), .val (.ref x32), .val (.ref x35), .val (.ref b83), .val (.ref b92), .unset, .unset, .unset, .unset] [])) _
          refine XS.aload X104.here hx rfl (hb hby at_205) rfl rfl ?_
          refine XS.iload X104.here hx rfl (hb hby at_207) rfl ?_
          exact Steps.refl _)
        obtain ⟨cl108, Ar108, -, S108, -, Ha108, -⟩ := id V104
        have c109 : Steps p.tables e below S0 (T104.setTop (mkF m 212 #[.val (.int p0), .val (.int p1), .val (.int p2), .val (.int p3), .val (.int p4), .val (.int p5), .val (.int k3), .val (.ref pk), .val (.int (2 : Int32)), .val (.int (0 : Int32)), .val (.ref x26), .val (.ref x29), .val (.ref x32), .val (.ref x35), .val (.ref b83), .val (.ref b92), .unset, .unset, .unset, .unset] [(.int (p2 &&& (3 : Int32)))])) := c107.trans (by
          show Steps p.tables e below (T104.setTop (mkF m 209 #[.val (.int p0), .val (.int p1), .val (.int p2), .val (.int p3), .val (.int p4), .val (.int p5), .val (.int k3), .val (.ref pk), .val (.int (2 : Int32)), .val (.int (0 : Int32)), .val (.ref x26), .val (.ref x29), .val (.ref x32), .val (.ref x35), .val (.ref b83), .val (.ref b92), .unset, .unset, .unset, .unset] [(.int (0 : Int32)), (.ref b92)])) _
          refine X104.iaload hx (j := (0 : Int32)) (v := (.int p2)) (by rw [e104]; exact Ar108.1) (State.isArrayOf_alike hZ35.alike Ar108.2.1) Ar108.2.2 (inb_of S108 ⟨by decide, by decide⟩) (Ha108.at (inb_of S108 ⟨by decide, by decide⟩) rfl) (g := (mkF m 209 #[.val (.int p0), .val (.int p1), .val (.int p2), .val (.int p3), .val (.int p4), .val (.int p5), .val (.int k3), .val (.ref pk), .val (.int (2 : Int32)), .val (.int (0 : Int32)), .val (.ref x26), .val (.ref x29), .val (.ref x32), .val (.ref x35), .val (.ref b83), .val (.ref b92), .unset, .unset, .unset, .unset] [(.int (0 : Int32)), (.ref b92)])) rfl rfl (hb hby at_209) _ ?_
          refine XS.iconst X104.here hx rfl (hb hby at_210) ?_
          refine XS.iand X104.here hx rfl (hb hby at_211) rfl ?_
          exact Steps.refl _)
        obtain ⟨he, hhe, c112⟩ : ∃ (he : Int32), he = (if (p2 &&& (3 : Int32)) = (0 : Int32) then (1 : Int32) else (0 : Int32)) ∧ Steps p.tables e below S0 (T104.setTop (mkF m 220 #[.val (.int p0), .val (.int p1), .val (.int p2), .val (.int p3), .val (.int p4), .val (.int p5), .val (.int k3), .val (.ref pk), .val (.int (2 : Int32)), .val (.int (0 : Int32)), .val (.ref x26), .val (.ref x29), .val (.ref x32), .val (.ref x35), .val (.ref b83), .val (.ref b92), .unset, .unset, .unset, .unset] [(.int he)])) := by
          by_cases hq110 : (p2 &&& (3 : Int32)) = (0 : Int32)
          · exact ⟨_, (by rw [if_pos hq110]), c109.trans (by
              show Steps p.tables e below (T104.setTop (mkF m 212 #[.val (.int p0), .val (.int p1), .val (.int p2), .val (.int p3), .val (.int p4), .val (.int p5), .val (.int k3), .val (.ref pk), .val (.int (2 : Int32)), .val (.int (0 : Int32)), .val (.ref x26), .val (.ref x29), .val (.ref x32), .val (.ref x35), .val (.ref b83), .val (.ref b92), .unset, .unset, .unset, .unset] [(.int (p2 &&& (3 : Int32)))])) _
              refine XS.ifNo X104.here hx rfl (hb hby at_212) rfl ((if0 _ _).trans (teq hq110).2) ?_
              refine XS.iconst X104.here hx rfl (hb hby at_215) ?_
              refine XS.goto X104.here hx rfl (pc0 := 216) (pc' := 220) rfl (hb hby at_216) (by decide) (by decide) ?_
              exact Steps.refl _)⟩
          · exact ⟨_, (by rw [if_neg hq110]), c109.trans (by
              show Steps p.tables e below (T104.setTop (mkF m 212 #[.val (.int p0), .val (.int p1), .val (.int p2), .val (.int p3), .val (.int p4), .val (.int p5), .val (.int k3), .val (.ref pk), .val (.int (2 : Int32)), .val (.int (0 : Int32)), .val (.ref x26), .val (.ref x29), .val (.ref x32), .val (.ref x35), .val (.ref b83), .val (.ref b92), .unset, .unset, .unset, .unset] [(.int (p2 &&& (3 : Int32)))])) _
              refine XS.ifYes X104.here hx rfl (pc0 := 212) (pc' := 219) rfl (hb hby at_212) rfl ((if0 _ _).trans (feq hq110).2) (by decide) (by decide) ?_
              refine XS.iconst X104.here hx rfl (hb hby at_219) ?_
              exact Steps.refl _)⟩
        have c113 : Steps p.tables e below S0 (T104.setTop (mkF m 231 #[.val (.int p0), .val (.int p1), .val (.int p2), .val (.int p3), .val (.int p4), .val (.int p5), .val (.int k3), .val (.ref pk), .val (.int (2 : Int32)), .val (.int (0 : Int32)), .val (.ref x26), .val (.ref x29), .val (.ref x32), .val (.ref x35), .val (.ref b83), .val (.ref b92), .val (.int he), .val (.int (2 : Int32)), .unset, .unset] [(.int k3)])) := c112.trans (by
          show Steps p.tables e below (T104.setTop (mkF m 220 #[.val (.int p0), .val (.int p1), .val (.int p2), .val (.int p3), .val (.int p4), .val (.int p5), .val (.int k3), .val (.ref pk), .val (.int (2 : Int32)), .val (.int (0 : Int32)), .val (.ref x26), .val (.ref x29), .val (.ref x32), .val (.ref x35), .val (.ref b83), .val (.ref b92), .unset, .unset, .unset, .unset] [(.int he)])) _
          refine XS.istore X104.here hx rfl (hb hby at_220) rfl (l' := #[.val (.int p0), .val (.int p1), .val (.int p2), .val (.int p3), .val (.int p4), .val (.int p5), .val (.int k3), .val (.ref pk), .val (.int (2 : Int32)), .val (.int (0 : Int32)), .val (.ref x26), .val (.ref x29), .val (.ref x32), .val (.ref x35), .val (.ref b83), .val (.ref b92), .val (.int he), .unset, .unset, .unset]) rfl ?_
          refine XS.iload X104.here hx rfl (hb hby at_222) rfl ?_
          refine XS.iload X104.here hx rfl (hb hby at_224) rfl ?_
          refine XS.isub X104.here hx rfl (hb hby at_226) rfl ?_
          show Steps p.tables e below (T104.setTop (mkF m 227 #[.val (.int p0), .val (.int p1), .val (.int p2), .val (.int p3), .val (.int p4), .val (.int p5), .val (.int k3), .val (.ref pk), .val (.int (2 : Int32)), .val (.int (0 : Int32)), .val (.ref x26), .val (.ref x29), .val (.ref x32), .val (.ref x35), .val (.ref b83), .val (.ref b92), .val (.int he), .unset, .unset, .unset] [(.int (2 : Int32))])) _
          refine XS.istore X104.here hx rfl (hb hby at_227) rfl (l' := #[.val (.int p0), .val (.int p1), .val (.int p2), .val (.int p3), .val (.int p4), .val (.int p5), .val (.int k3), .val (.ref pk), .val (.int (2 : Int32)), .val (.int (0 : Int32)), .val (.ref x26), .val (.ref x29), .val (.ref x32), .val (.ref x35), .val (.ref b83), .val (.ref b92), .val (.int he), .val (.int (2 : Int32)), .unset, .unset]) rfl ?_
          refine XS.iload X104.here hx rfl (hb hby at_229) rfl ?_
          exact Steps.refl _)
        obtain ⟨ex, hex, c118⟩ : ∃ (ex : Int32), ex = (if k3 = (0 : Int32) then (if he = (0 : Int32) then (1 : Int32) else (0 : Int32)) else (2 : Int32)) ∧ Steps p.tables e below S0 (T104.setTop (mkF m 281 #[.val (.int p0), .val (.int p1), .val (.int p2), .val (.int p3), .val (.int p4), .val (.int p5), .val (.int k3), .val (.ref pk), .val (.int (2 : Int32)), .val (.int (0 : Int32)), .val (.ref x26), .val (.ref x29), .val (.ref x32), .val (.ref x35), .val (.ref b83), .val (.ref b92), .val (.int he), .val (.int (2 : Int32)), .val (.int ex), .unset] [])) := by
          by_cases hq114 : k3 = (0 : Int32)
          · by_cases hq115 : he = (0 : Int32)
            · exact ⟨_, (by rw [if_pos hq114, if_pos hq115]), c113.trans (by
                show Steps p.tables e below (T104.setTop (mkF m 231 #[.val (.int p0), .val (.int p1), .val (.int p2), .val (.int p3), .val (.int p4), .val (.int p5), .val (.int k3), .val (.ref pk), .val (.int (2 : Int32)), .val (.int (0 : Int32)), .val (.ref x26), .val (.ref x29), .val (.ref x32), .val (.ref x35), .val (.ref b83), .val (.ref b92), .val (.int he), .val (.int (2 : Int32)), .unset, .unset] [(.int k3)])) _
                refine XS.ifNo X104.here hx rfl (hb hby at_231) rfl ((if0 _ _).trans (teq hq114).2) ?_
                refine XS.iload X104.here hx rfl (hb hby at_234) rfl ?_
                refine XS.ifYes X104.here hx rfl (pc0 := 236) (pc' := 243) rfl (hb hby at_236) rfl ((if0 _ _).trans (teq hq115).1) (by decide) (by decide) ?_
                refine XS.iconst X104.here hx rfl (hb hby at_243) ?_
                show Steps p.tables e below (T104.setTop (mkF m 244 #[.val (.int p0), .val (.int p1), .val (.int p2), .val (.int p3), .val (.int p4), .val (.int p5), .val (.int k3), .val (.ref pk), .val (.int (2 : Int32)), .val (.int (0 : Int32)), .val (.ref x26), .val (.ref x29), .val (.ref x32), .val (.ref x35), .val (.ref b83), .val (.ref b92), .val (.int he), .val (.int (2 : Int32)), .unset, .unset] [(.int (1 : Int32))])) _
                refine XS.istore X104.here hx rfl (hb hby at_244) rfl (l' := #[.val (.int p0), .val (.int p1), .val (.int p2), .val (.int p3), .val (.int p4), .val (.int p5), .val (.int k3), .val (.ref pk), .val (.int (2 : Int32)), .val (.int (0 : Int32)), .val (.ref x26), .val (.ref x29), .val (.ref x32), .val (.ref x35), .val (.ref b83), .val (.ref b92), .val (.int he), .val (.int (2 : Int32)), .val (.int (1 : Int32)), .unset]) rfl ?_
                refine XS.goto X104.here hx rfl (pc0 := 246) (pc' := 281) rfl (hb hby at_246) (by decide) (by decide) ?_
                exact Steps.refl _)⟩
            · exact ⟨_, (by rw [if_pos hq114, if_neg hq115]), c113.trans (by
                show Steps p.tables e below (T104.setTop (mkF m 231 #[.val (.int p0), .val (.int p1), .val (.int p2), .val (.int p3), .val (.int p4), .val (.int p5), .val (.int k3), .val (.ref pk), .val (.int (2 : Int32)), .val (.int (0 : Int32)), .val (.ref x26), .val (.ref x29), .val (.ref x32), .val (.ref x35), .val (.ref b83), .val (.ref b92), .val (.int he), .val (.int (2 : Int32)), .unset, .unset] [(.int k3)])) _
                refine XS.ifNo X104.here hx rfl (hb hby at_231) rfl ((if0 _ _).trans (teq hq114).2) ?_
                refine XS.iload X104.here hx rfl (hb hby at_234) rfl ?_
                refine XS.ifNo X104.here hx rfl (hb hby at_236) rfl ((if0 _ _).trans (feq hq115).1) ?_
                refine XS.iconst X104.here hx rfl (hb hby at_239) ?_
                show Steps p.tables e below (T104.setTop (mkF m 240 #[.val (.int p0), .val (.int p1), .val (.int p2), .val (.int p3), .val (.int p4), .val (.int p5), .val (.int k3), .val (.ref pk), .val (.int (2 : Int32)), .val (.int (0 : Int32)), .val (.ref x26), .val (.ref x29), .val (.ref x32), .val (.ref x35), .val (.ref b83), .val (.ref b92), .val (.int he), .val (.int (2 : Int32)), .unset, .unset] [(.int (0 : Int32))])) _
                refine XS.goto X104.here hx rfl (pc0 := 240) (pc' := 244) rfl (hb hby at_240) (by decide) (by decide) ?_
                refine XS.istore X104.here hx rfl (hb hby at_244) rfl (l' := #[.val (.int p0), .val (.int p1), .val (.int p2), .val (.int p3), .val (.int p4), .val (.int p5), .val (.int k3), .val (.ref pk), .val (.int (2 : Int32)), .val (.int (0 : Int32)), .val (.ref x26), .val (.ref x29), .val (.ref x32), .val (.ref x35), .val (.ref b83), .val (.ref b92), .val (.int he), .val (.int (2 : Int32)), .val (.int (0 : Int32)), .unset]) rfl ?_
                refine XS.goto X104.here hx rfl (pc0 := 246) (pc' := 281) rfl (hb hby at_246) (by decide) (by decide) ?_
                exact Steps.refl _)⟩
          · by_cases hq116 : k3 = (1 : Int32)
            · exact ⟨_, (by rw [if_neg hq114]), c113.trans (by
                show Steps p.tables e below (T104.setTop (mkF m 231 #[.val (.int p0), .val (.int p1), .val (.int p2), .val (.int p3), .val (.int p4), .val (.int p5), .val (.int k3), .val (.ref pk), .val (.int (2 : Int32)), .val (.int (0 : Int32)), .val (.ref x26), .val (.ref x29), .val (.ref x32), .val (.ref x35), .val (.ref b83), .val (.ref b92), .val (.int he), .val (.int (2 : Int32)), .unset, .unset] [(.int k3)])) _
                refine XS.ifYes X104.here hx rfl (pc0 := 231) (pc' := 249) rfl (hb hby at_231) rfl ((if0 _ _).trans (feq hq114).2) (by decide) (by decide) ?_
                refine XS.iload X104.here hx rfl (hb hby at_249) rfl ?_
                refine XS.iconst X104.here hx rfl (hb hby at_251) ?_
                refine XS.icmpNo X104.here hx rfl (hb hby at_252) rfl (teq hq116).2 ?_
                show Steps p.tables e below (T104.setTop (mkF m 255 #[.val (.int p0), .val (.int p1), .val (.int p2), .val (.int p3), .val (.int p4), .val (.int p5), .val (.int k3), .val (.ref pk), .val (.int (2 : Int32)), .val (.int (0 : Int32)), .val (.ref x26), .val (.ref x29), .val (.ref x32), .val (.ref x35), .val (.ref b83), .val (.ref b92), .val (.int he), .val (.int (2 : Int32)), .unset, .unset] [])) _
                refine XS.iload X104.here hx rfl (hb hby at_255) rfl ?_
                refine XS.iconst X104.here hx rfl (hb hby at_257) ?_
                refine XS.icmpYes X104.here hx rfl (pc0 := 258) (pc' := 270) rfl (hb hby at_258) rfl (feq (by decide : ¬ ((2 : Int32) = (1 : Int32)))).2 (by decide) (by decide) ?_
                refine XS.iload X104.here hx rfl (hb hby at_270) rfl ?_
                show Steps p.tables e below (T104.setTop (mkF m 272 #[.val (.int p0), .val (.int p1), .val (.int p2), .val (.int p3), .val (.int p4), .val (.int p5), .val (.int k3), .val (.ref pk), .val (.int (2 : Int32)), .val (.int (0 : Int32)), .val (.ref x26), .val (.ref x29), .val (.ref x32), .val (.ref x35), .val (.ref b83), .val (.ref b92), .val (.int he), .val (.int (2 : Int32)), .unset, .unset] [(.int (2 : Int32))])) _
                refine XS.istore X104.here hx rfl (hb hby at_272) rfl (l' := #[.val (.int p0), .val (.int p1), .val (.int p2), .val (.int p3), .val (.int p4), .val (.int p5), .val (.int k3), .val (.ref pk), .val (.int (2 : Int32)), .val (.int (0 : Int32)), .val (.ref x26), .val (.ref x29), .val (.ref x32), .val (.ref x35), .val (.ref b83), .val (.ref b92), .val (.int he), .val (.int (2 : Int32)), .val (.int (2 : Int32)), .unset]) rfl ?_
                refine XS.goto X104.here hx rfl (pc0 := 274) (pc' := 281) rfl (hb hby at_274) (by decide) (by decide) ?_
                exact Steps.refl _)⟩
            · exact ⟨_, (by rw [if_neg hq114]), c113.trans (by
                show Steps p.tables e below (T104.setTop (mkF m 231 #[.val (.int p0), .val (.int p1), .val (.int p2), .val (.int p3), .val (.int p4), .val (.int p5), .val (.int k3), .val (.ref pk), .val (.int (2 : Int32)), .val (.int (0 : Int32)), .val (.ref x26), .val (.ref x29), .val (.ref x32), .val (.ref x35), .val (.ref b83), .val (.ref b92), .val (.int he), .val (.int (2 : Int32)), .unset, .unset] [(.int k3)])) _
                refine XS.ifYes X104.here hx rfl (pc0 := 231) (pc' := 249) rfl (hb hby at_231) rfl ((if0 _ _).trans (feq hq114).2) (by decide) (by decide) ?_
                refine XS.iload X104.here hx rfl (hb hby at_249) rfl ?_
                refine XS.iconst X104.here hx rfl (hb hby at_251) ?_
                refine XS.icmpYes X104.here hx rfl (pc0 := 252) (pc' := 277) rfl (hb hby at_252) rfl (feq hq116).2 (by decide) (by decide) ?_
                show Steps p.tables e below (T104.setTop (mkF m 277 #[.val (.int p0), .val (.int p1), .val (.int p2), .val (.int p3), .val (.int p4), .val (.int p5), .val (.int k3), .val (.ref pk), .val (.int (2 : Int32)), .val (.int (0 : Int32)), .val (.ref x26), .val (.ref x29), .val (.ref x32), .val (.ref x35), .val (.ref b83), .val (.ref b92), .val (.int he), .val (.int (2 : Int32)), .unset, .unset] [])) _
                refine XS.iload X104.here hx rfl (hb hby at_277) rfl ?_
                refine XS.istore X104.here hx rfl (hb hby at_279) rfl (l' := #[.val (.int p0), .val (.int p1), .val (.int p2), .val (.int p3), .val (.int p4), .val (.int p5), .val (.int k3), .val (.ref pk), .val (.int (2 : Int32)), .val (.int (0 : Int32)), .val (.ref x26), .val (.ref x29), .val (.ref x32), .val (.ref x35), .val (.ref b83), .val (.ref b92), .val (.int he), .val (.int (2 : Int32)), .val (.int (2 : Int32)), .unset]) rfl ?_
                exact Steps.refl _)⟩
        have c119 : Steps p.tables e below S0 (T104.setTop (mkF m 287 #[.val (.int p0), .val (.int p1), .val (.int p2), .val (.int p3), .val (.int p4), .val (.int p5), .val (.int k3), .val (.ref pk), .val (.int (2 : Int32)), .val (.int (0 : Int32)), .val (.ref x26), .val (.ref x29), .val (.ref x32), .val (.ref x35), .val (.ref b83), .val (.ref b92), .val (.int he), .val (.int (2 : Int32)), .val (.int ex), .unset] [(.int (0 : Int32)), (.ref b83), (.ref pk)])) := c118.trans (by
          show Steps p.tables e below (T104.setTop (mkF m 281 #[.val (.int p0), .val (.int p1), .val (.int p2), .val (.int p3), .val (.int p4), .val (.int p5), .val (.int k3), .val (.ref pk), .val (.int (2 : Int32)), .val (.int (0 : Int32)), .val (.ref x26), .val (.ref x29), .val (.ref x32), .val (.ref x35), .val (.ref b83), .val (.ref b92), .val (.int he), .val (.int (2 : Int32)), .val (.int ex), .unset] [])) _
          refine XS.aload X104.here hx rfl (hb hby at_281) rfl rfl ?_
          refine XS.aload X104.here hx rfl (hb hby at_283) rfl rfl ?_
          refine XS.iload X104.here hx rfl (hb hby at_285) rfl ?_
          exact Steps.refl _)
        obtain ⟨cq120, kq120, q120a, q120b, q120c⟩ := isOf hZ35 e104 (((((((((((((xpk.ext X00.2).keep Kq26).keep Kq29).keep Kq32).keep Kq35).ext E83).wr W86).wr W89).ext E92).wr W95).wr W98).wr W101).wr W104)
        obtain ⟨_, _, ⟨T120, L120, kk120, nn120⟩, -, X120, ⟨Lc120, hQ120, l120, y120, z120⟩, st120⟩ := X104.virtualBack hx (y := (⟨"com/example/libroute/libroute/pattern/ParameterKind", "span", "([Ljava/lang/String;I)I"⟩ : MethodName)) (z := (⟨"com/example/libroute/libroute/pattern/ParameterKind", "span", "([Ljava/lang/String;I)I"⟩ : MethodName)) hown35 (mvT hZ35 (hw _ (List.mem_of_getElem? (i := 57) rfl))) (mvT hZ35 (hw _ (List.mem_of_getElem? (i := 58) rfl))) (notFace_of_selects (args := #[]) (mvT hZ35 (hw _ (List.mem_of_getElem? (i := 60) rfl)))) (mvT hZ35 (hw _ (List.mem_of_getElem? (i := 60) rfl))) (mvT hZ35 (hw _ (List.mem_of_getElem? (i := 59) rfl))) (by decide) (backOf (W := 0) (rmSp l Z a0 hw [] pk b83 rr te (2 : Int32) (0 : Int32) _ [(.ref x26), (.ref x29)] x26 t26 kb26 cs26 G1 h104 n0 z104 (((((((((((((Fp.ext X00.2).keep Kq26 nin0).keep Kq29 nin0).keep Kq32 nin0).keep Kq35 nin0).ext E83).other W86 (Or.inl (Nat.ne_of_lt (Nat.lt_of_lt_of_le (Nat.lt_of_lt_of_le (xpk.ext X00.2).lt (Nat.le_trans (Nat.le_trans (Nat.le_trans Kq26.1 Kq29.1) Kq32.1) Kq35.1)) (Nat.le_of_eq g83.symm))))).other W89 (Or.inl (Nat.ne_of_lt (Nat.lt_of_lt_of_le (Nat.lt_of_lt_of_le (xpk.ext X00.2).lt (Nat.le_trans (Nat.le_trans (Nat.le_trans Kq26.1 Kq29.1) Kq32.1) Kq35.1)) (Nat.le_of_eq g83.symm))))).ext E92).other W95 (Or.inl (Nat.ne_of_lt (Nat.lt_of_lt_of_le (Nat.lt_of_lt_of_le (xpk.ext X00.2).lt (Nat.le_trans (Nat.le_trans (Nat.le_trans (Nat.le_trans (Nat.le_trans (Nat.le_trans Kq26.1 Kq29.1) Kq32.1) Kq35.1) E83.1) (Keep.of_wr W86).1) (Keep.of_wr W89).1)) (Nat.le_of_eq g92.symm))))).other W98 (Or.inl (Nat.ne_of_lt (Nat.lt_of_lt_of_le (Nat.lt_of_lt_of_le (xpk.ext X00.2).lt (Nat.le_trans (Nat.le_trans (Nat.le_trans (Nat.le_trans (Nat.le_trans (Nat.le_trans Kq26.1 Kq29.1) Kq32.1) Kq35.1) E83.1) (Keep.of_wr W86).1) (Keep.of_wr W89).1)) (Nat.le_of_eq g92.symm))))).other W101 (Or.inl (Nat.ne_of_lt (Nat.lt_of_lt_of_le (Nat.lt_of_lt_of_le (xpk.ext X00.2).lt (Nat.le_trans (Nat.le_trans (Nat.le_trans (Nat.le_trans (Nat.le_trans (Nat.le_trans Kq26.1 Kq29.1) Kq32.1) Kq35.1) E83.1) (Keep.of_wr W86).1) (Keep.of_wr W89).1)) (Nat.le_of_eq g92.symm))))).other W104 (Or.inl (Nat.ne_of_lt (Nat.lt_of_lt_of_le (Nat.lt_of_lt_of_le (xpk.ext X00.2).lt (Nat.le_trans (Nat.le_trans (Nat.le_trans (Nat.le_trans (Nat.le_trans (Nat.le_trans Kq26.1 Kq29.1) Kq32.1) Kq35.1) E83.1) (Keep.of_wr W86).1) (Keep.of_wr W89).1)) (Nat.le_of_eq g92.symm))))) (((((((((((((Gp.ext X00.2).keep Kq26 nin0).keep Kq29 nin0).keep Kq32 nin0).keep Kq35 nin0).ext E83).other W86 (Or.inl (Nat.ne_of_lt (Nat.lt_of_lt_of_le (Nat.lt_of_lt_of_le (xpk.ext X00.2).lt (Nat.le_trans (Nat.le_trans (Nat.le_trans Kq26.1 Kq29.1) Kq32.1) Kq35.1)) (Nat.le_of_eq g83.symm))))).other W89 (Or.inl (Nat.ne_of_lt (Nat.lt_of_lt_of_le (Nat.lt_of_lt_of_le (xpk.ext X00.2).lt (Nat.le_trans (Nat.le_trans (Nat.le_trans Kq26.1 Kq29.1) Kq32.1) Kq35.1)) (Nat.le_of_eq g83.symm))))).ext E92).other W95 (Or.inl (Nat.ne_of_lt (Nat.lt_of_lt_of_le (Nat.lt_of_lt_of_le (xpk.ext X00.2).lt (Nat.le_trans (Nat.le_trans (Nat.le_trans (Nat.le_trans (Nat.le_trans (Nat.le_trans Kq26.1 Kq29.1) Kq32.1) Kq35.1) E83.1) (Keep.of_wr W86).1) (Keep.of_wr W89).1)) (Nat.le_of_eq g92.symm))))).other W98 (Or.inl (Nat.ne_of_lt (Nat.lt_of_lt_of_le (Nat.lt_of_lt_of_le (xpk.ext X00.2).lt (Nat.le_trans (Nat.le_trans (Nat.le_trans (Nat.le_trans (Nat.le_trans (Nat.le_trans Kq26.1 Kq29.1) Kq32.1) Kq35.1) E83.1) (Keep.of_wr W86).1) (Keep.of_wr W89).1)) (Nat.le_of_eq g92.symm))))).other W101 (Or.inl (Nat.ne_of_lt (Nat.lt_of_lt_of_le (Nat.lt_of_lt_of_le (xpk.ext X00.2).lt (Nat.le_trans (Nat.le_trans (Nat.le_trans (Nat.le_trans (Nat.le_trans (Nat.le_trans Kq26.1 Kq29.1) Kq32.1) Kq35.1) E83.1) (Keep.of_wr W86).1) (Keep.of_wr W89).1)) (Nat.le_of_eq g92.symm))))).other W104 (Or.inl (Nat.ne_of_lt (Nat.lt_of_lt_of_le (Nat.lt_of_lt_of_le (xpk.ext X00.2).lt (Nat.le_trans (Nat.le_trans (Nat.le_trans (Nat.le_trans (Nat.le_trans (Nat.le_trans Kq26.1 Kq29.1) Kq32.1) Kq35.1) E83.1) (Keep.of_wr W86).1) (Keep.of_wr W89).1)) (Nat.le_of_eq g92.symm))))) (((((V89.ext E92).other W95 (Nat.ne_of_lt (Nat.lt_of_lt_of_le (Nat.lt_of_lt_of_le lt_b83 (Nat.le_trans (Keep.of_wr W86).1 (Keep.of_wr W89).1)) (Nat.le_of_eq g92.symm)))).other W98 (Nat.ne_of_lt (Nat.lt_of_lt_of_le (Nat.lt_of_lt_of_le lt_b83 (Nat.le_trans (Keep.of_wr W86).1 (Keep.of_wr W89).1)) (Nat.le_of_eq g92.symm)))).other W101 (Nat.ne_of_lt (Nat.lt_of_lt_of_le (Nat.lt_of_lt_of_le lt_b83 (Nat.le_trans (Keep.of_wr W86).1 (Keep.of_wr W89).1)) (Nat.le_of_eq g92.symm)))).other W104 (Nat.ne_of_lt (Nat.lt_of_lt_of_le (Nat.lt_of_lt_of_le lt_b83 (Nat.le_trans (Keep.of_wr W86).1 (Keep.of_wr W89).1)) (Nat.le_of_eq g92.symm)))) ⟨by decide, by decide⟩ rfl ⟨(((((((((((So26.1.keep Kq29).keep Kq32).keep Kq35).ext E83).wr W86).wr W89).ext E92).wr W95).wr W98).wr W101).wr W104), (((((((((((So26.2.1.keep Kq29 nin0).keep Kq32 nin0).keep Kq35 nin0).ext E83).other W86 (Or.inl (Nat.ne_of_lt (Nat.lt_of_lt_of_le (Nat.lt_of_lt_of_le lt_x26 (Nat.le_trans (Nat.le_trans Kq29.1 Kq32.1) Kq35.1)) (Nat.le_of_eq g83.symm))))).other W89 (Or.inl (Nat.ne_of_lt (Nat.lt_of_lt_of_le (Nat.lt_of_lt_of_le lt_x26 (Nat.le_trans (Nat.le_trans Kq29.1 Kq32.1) Kq35.1)) (Nat.le_of_eq g83.symm))))).ext E92).other W95 (Or.inl (Nat.ne_of_lt (Nat.lt_of_lt_of_le (Nat.lt_of_lt_of_le lt_x26 (Nat.le_trans (Nat.le_trans (Nat.le_trans (Nat.le_trans (Nat.le_trans Kq29.1 Kq32.1) Kq35.1) E83.1) (Keep.of_wr W86).1) (Keep.of_wr W89).1)) (Nat.le_of_eq g92.symm))))).other W98 (Or.inl (Nat.ne_of_lt (Nat.lt_of_lt_of_le (Nat.lt_of_lt_of_le lt_x26 (Nat.le_trans (Nat.le_trans (Nat.le_trans (Nat.le_trans (Nat.le_trans Kq29.1 Kq32.1) Kq35.1) E83.1) (Keep.of_wr W86).1) (Keep.of_wr W89).1)) (Nat.le_of_eq g92.symm))))).other W101 (Or.inl (Nat.ne_of_lt (Nat.lt_of_lt_of_le (Nat.lt_of_lt_of_le lt_x26 (Nat.le_trans (Nat.le_trans (Nat.le_trans (Nat.le_trans (Nat.le_trans Kq29.1 Kq32.1) Kq35.1) E83.1) (Keep.of_wr W86).1) (Keep.of_wr W89).1)) (Nat.le_of_eq g92.symm))))).other W104 (Or.inl (Nat.ne_of_lt (Nat.lt_of_lt_of_le (Nat.lt_of_lt_of_le lt_x26 (Nat.le_trans (Nat.le_trans (Nat.le_trans (Nat.le_trans (Nat.le_trans Kq29.1 Kq32.1) Kq35.1) E83.1) (Keep.of_wr W86).1) (Keep.of_wr W89).1)) (Nat.le_of_eq g92.symm))))), (((((((((((So26.2.2.1.keep Kq29 nin0).keep Kq32 nin0).keep Kq35 nin0).ext E83).other W86 (Or.inl (Nat.ne_of_lt (Nat.lt_of_lt_of_le (Nat.lt_of_lt_of_le lt_x26 (Nat.le_trans (Nat.le_trans Kq29.1 Kq32.1) Kq35.1)) (Nat.le_of_eq g83.symm))))).other W89 (Or.inl (Nat.ne_of_lt (Nat.lt_of_lt_of_le (Nat.lt_of_lt_of_le lt_x26 (Nat.le_trans (Nat.le_trans Kq29.1 Kq32.1) Kq35.1)) (Nat.le_of_eq g83.symm))))).ext E92).other W95 (Or.inl (Nat.ne_of_lt (Nat.lt_of_lt_of_le (Nat.lt_of_lt_of_le lt_x26 (Nat.le_trans (Nat.le_trans (Nat.le_trans (Nat.le_trans (Nat.le_trans Kq29.1 Kq32.1) Kq35.1) E83.1) (Keep.of_wr W86).1) (Keep.of_wr W89).1)) (Nat.le_of_eq g92.symm))))).other W98 (Or.inl (Nat.ne_of_lt (Nat.lt_of_lt_of_le (Nat.lt_of_lt_of_le lt_x26 (Nat.le_trans (Nat.le_trans (Nat.le_trans (Nat.le_trans (Nat.le_trans Kq29.1 Kq32.1) Kq35.1) E83.1) (Keep.of_wr W86).1) (Keep.of_wr W89).1)) (Nat.le_of_eq g92.symm))))).other W101 (Or.inl (Nat.ne_of_lt (Nat.lt_of_lt_of_le (Nat.lt_of_lt_of_le lt_x26 (Nat.le_trans (Nat.le_trans (Nat.le_trans (Nat.le_trans (Nat.le_trans Kq29.1 Kq32.1) Kq35.1) E83.1) (Keep.of_wr W86).1) (Keep.of_wr W89).1)) (Nat.le_of_eq g92.symm))))).other W104 (Or.inl (Nat.ne_of_lt (Nat.lt_of_lt_of_le (Nat.lt_of_lt_of_le lt_x26 (Nat.le_trans (Nat.le_trans (Nat.le_trans (Nat.le_trans (Nat.le_trans Kq29.1 Kq32.1) Kq35.1) E83.1) (Keep.of_wr W86).1) (Keep.of_wr W89).1)) (Nat.le_of_eq g92.symm))))), (((((((((((So26.2.2.2.1.keep Kq29 nin0).keep Kq32 nin0).keep Kq35 nin0).ext E83).other W86 (Nat.ne_of_lt (Nat.lt_of_lt_of_le (Nat.lt_of_lt_of_le lt_t26 (Nat.le_trans (Nat.le_trans Kq29.1 Kq32.1) Kq35.1)) (Nat.le_of_eq g83.symm)))).other W89 (Nat.ne_of_lt (Nat.lt_of_lt_of_le (Nat.lt_of_lt_of_le lt_t26 (Nat.le_trans (Nat.le_trans Kq29.1 Kq32.1) Kq35.1)) (Nat.le_of_eq g83.symm)))).ext E92).other W95 (Nat.ne_of_lt (Nat.lt_of_lt_of_le (Nat.lt_of_lt_of_le lt_t26 (Nat.le_trans (Nat.le_trans (Nat.le_trans (Nat.le_trans (Nat.le_trans Kq29.1 Kq32.1) Kq35.1) E83.1) (Keep.of_wr W86).1) (Keep.of_wr W89).1)) (Nat.le_of_eq g92.symm)))).other W98 (Nat.ne_of_lt (Nat.lt_of_lt_of_le (Nat.lt_of_lt_of_le lt_t26 (Nat.le_trans (Nat.le_trans (Nat.le_trans (Nat.le_trans (Nat.le_trans Kq29.1 Kq32.1) Kq35.1) E83.1) (Keep.of_wr W86).1) (Keep.of_wr W89).1)) (Nat.le_of_eq g92.symm)))).other W101 (Nat.ne_of_lt (Nat.lt_of_lt_of_le (Nat.lt_of_lt_of_le lt_t26 (Nat.le_trans (Nat.le_trans (Nat.le_trans (Nat.le_trans (Nat.le_trans Kq29.1 Kq32.1) Kq35.1) E83.1) (Keep.of_wr W86).1) (Keep.of_wr W89).1)) (Nat.le_of_eq g92.symm)))).other W104 (Nat.ne_of_lt (Nat.lt_of_lt_of_le (Nat.lt_of_lt_of_le lt_t26 (Nat.le_trans (Nat.le_trans (Nat.le_trans (Nat.le_trans (Nat.le_trans Kq29.1 Kq32.1) Kq35.1) E83.1) (Keep.of_wr W86).1) (Keep.of_wr W89).1)) (Nat.le_of_eq g92.symm)))), So26.2.2.2.2.1, So26.2.2.2.2.2⟩ O2 P5 ((((((((((((X00.keep Kq26 all0).keep Kq29 all0).keep Kq32 all0).keep Kq35 all0).ext E83).wr W86 (Nat.le_trans Z0 (Nat.le_trans K35.1 (Nat.le_of_eq g83.symm)))).wr W89 (Nat.le_trans Z0 (Nat.le_trans K35.1 (Nat.le_of_eq g83.symm)))).ext E92).wr W95 (Nat.le_trans Z0 (Nat.le_trans K89.1 (Nat.le_of_eq g92.symm)))).wr W98 (Nat.le_trans Z0 (Nat.le_trans K89.1 (Nat.le_of_eq g92.symm)))).wr W101 (Nat.le_trans Z0 (Nat.le_trans K89.1 (Nat.le_of_eq g92.symm)))).wr W104 (Nat.le_trans Z0 (Nat.le_trans K89.1 (Nat.le_of_eq g92.symm))))) hZ35 (hw _ (List.mem_of_getElem? (i := 61) rfl)) (hw _ (List.mem_of_getElem? (i := 2) rfl)) (by decide) (by decide)) q120a q120c (g := (mkF m 287 #[.val (.int p0), .val (.int p1), .val (.int p2), .val (.int p3), .val (.int p4), .val (.int p5), .val (.int k3), .val (.ref pk), .val (.int (2 : Int32)), .val (.int (0 : Int32)), .val (.ref x26), .val (.ref x29), .val (.ref x32), .val (.ref x35), .val (.ref b83), .val (.ref b92), .val (.int he), .val (.int (2 : Int32)), .val (.int ex), .unset] [(.int (0 : Int32)), (.ref b83), (.ref pk)])) rfl (by rw [hml]; rfl) (Steps.refl _) (argsL := [(.ref b83), (.int (0 : Int32))]) (rest := []) (lenOf pd_oaLjavaslangsStringeIcI rfl) rfl (by show 2 * 0 + _ ≤ _; exact Nat.le_of_eq rfl) (hb hby at_287) (fun _ _ => ⟨rfl, e104, (by decide : 26 + 0 ≤ _), (by decide : 54 + 0 ≤ _)⟩)
        dsimp only [Pt.U, Pt.locs, Pt.cells, Pt.slots] at X120 l120 y120 z120 st120 hQ120
        subst l120 y120 z120
        obtain ⟨rfl, Nq120, eq120⟩ := hQ120
        have c121 : Steps p.tables e below S0 (T120.setTop (mkF m 290 #[.val (.int p0), .val (.int p1), .val (.int p2), .val (.int p3), .val (.int p4), .val (.int p5), .val (.int k3), .val (.ref pk), .val (.int (2 : Int32)), .val (.int (0 : Int32)), .val (.ref x26), .val (.ref x29), .val (.ref x32), .val (.ref x35), .val (.ref b83), .val (.ref b92), .val (.int he), .val (.int (2 : Int32)), .val (.int ex), .unset] [(.int (own_span rr te (2 : Int32) (0 : Int32) cs26.length))])) := c119.trans (st120)
        have N120 := Fr.app N104 Nq120
        have c122 : Steps p.tables e below S0 (T120.setTop (mkF m 304 #[.val (.int p0), .val (.int p1), .val (.int p2), .val (.int p3), .val (.int p4), .val (.int p5), .val (.int k3), .val (.ref pk), .val (.int (2 : Int32)), .val (.int (0 : Int32)), .val (.ref x26), .val (.ref x29), .val (.ref x32), .val (.ref x35), .val (.ref b83), .val (.ref b92), .val (.int he), .val (.int (2 : Int32)), .val (.int ex), .val (.int (own_span rr te (2 : Int32) (0 : Int32) cs26.length))] [(.int (1 : Int32))])) := c121.trans (by
          show Steps p.tables e below (T120.setTop (mkF m 290 #[.val (.int p0), .val (.int p1), .val (.int p2), .val (.int p3), .val (.int p4), .val (.int p5), .val (.int k3), .val (.ref pk), .val (.int (2 : Int32)), .val (.int (0 : Int32)), .val (.ref x26), .val (.ref x29), .val (.ref x32), .val (.ref x35), .val (.ref b83), .val (.ref b92), .val (.int he), .val (.int (2 : Int32)), .val (.int ex), .unset] [(.int (own_span rr te (2 : Int32) (0 : Int32) cs26.length))])) _
          refine XS.istore X120.here hx rfl (hb hby at_290) rfl (l' := #[.val (.int p0), .val (.int p1), .val (.int p2), .val (.int p3), .val (.int p4), .val (.int p5), .val (.int k3), .val (.ref pk), .val (.int (2 : Int32)), .val (.int (0 : Int32)), .val (.ref x26), .val (.ref x29), .val (.ref x32), .val (.ref x35), .val (.ref b83), .val (.ref b92), .val (.int he), .val (.int (2 : Int32)), .val (.int ex), .val (.int (own_span rr te (2 : Int32) (0 : Int32) cs26.length))]) rfl ?_
          refine XS.iload X120.here hx rfl (hb hby at_292) rfl ?_
          refine XS.iload X120.here hx rfl (hb hby at_294) rfl ?_
          refine XS.icmpNo X120.here hx rfl (hb hby at_296) rfl (teq (own_ex20 hkk em26 hhe hex)).2 ?_
          show Steps p.tables e below (T120.setTop (mkF m 299 #[.val (.int p0), .val (.int p1), .val (.int p2), .val (.int p3), .val (.int p4), .val (.int p5), .val (.int k3), .val (.ref pk), .val (.int (2 : Int32)), .val (.int (0 : Int32)), .val (.ref x26), .val (.ref x29), .val (.ref x32), .val (.ref x35), .val (.ref b83), .val (.ref b92), .val (.int he), .val (.int (2 : Int32)), .val (.int ex), .val (.int (own_span rr te (2 : Int32) (0 : Int32) cs26.length))] [])) _
          refine XS.iconst X120.here hx rfl (hb hby at_299) ?_
          refine XS.goto X120.here hx rfl (pc0 := 300) (pc' := 304) rfl (hb hby at_300) (by decide) (by decide) ?_
          exact Steps.refl _)
        obtain ⟨fs, hr, hrun, hended, hW⟩ := X120.leaveW hS35 (by rw [eq120]; exact (Nat.le_trans (Nat.le_refl _) (Nat.le_trans (Nat.le_trans (Nat.le_trans (Nat.le_trans (Nat.le_trans (Nat.le_trans (Nat.le_trans E83.1 (Keep.of_wr W86).1) (Keep.of_wr W89).1) E92.1) (Keep.of_wr W95).1) (Keep.of_wr W98).1) (Keep.of_wr W101).1) (Keep.of_wr W104).1))) (v := some (.int (1 : Int32))) (fun h => by rw [Bd.returns] at h; cases h)
        refine ⟨_, _, c122.trans (retOut X120 hx Bd.returns rfl (Or.inl ⟨rfl, by simp, _, rfl⟩) (hb hby at_304) hr), hrun, hended, _, _, rfl, ?_, ?_, hW.1, hW.2.1, hW.2.2.1, hW.2.2.2.mono (by decide) (by decide)⟩
        · show Q0 Z  h0 n0 _ T120.heap _
          rw [eq120]
          exact ⟨rfl, N120⟩
        · show CHr Z EL s.vm s.heap T120.vm T120.heap
          rw [hh, eq120]; exact R104.trans (CHv.at X120 hZ35 hEL R104.1)
      · rw [ei] at c106
        have c123 : Steps p.tables e below S0 (T104.setTop (mkF m 209 #[.val (.int p0), .val (.int p1), .val (.int p2), .val (.int p3), .val (.int p4), .val (.int p5), .val (.int k3), .val (.ref pk), .val (.int (2 : Int32)), .val (.int (1 : Int32)), .val (.ref x26), .val (.ref x29), .val (.ref x32), .val (.ref x35), .val (.ref b83), .val (.ref b92), .unset, .unset, .unset, .unset] [(.int (1 : Int32)), (.ref b92)])) := c106.trans (by
          show Steps p.tables e below (T104.setTop (mkF m 205 #[.val (.int p0), .val (.int p1), .val (.int p2), .val (.int p3), .val (.int p4), .val (.int p5), .val (.int k3), .val (.ref pk), .val (.int (2 : Int32)), .val (.int (1 : Int32)), .val (.ref x26), .val (.ref x29), .val (.ref x32), .val (.ref x35), .val (.ref b83), .val (.ref b92), .unset, .unset, .unset, .unset] [])) _
          refine XS.aload X104.here hx rfl (hb hby at_205) rfl rfl ?_
          refine XS.iload X104.here hx rfl (hb hby at_207) rfl ?_
          exact Steps.refl _)
        obtain ⟨cl124, Ar124, -, S124, -, Ha124, -⟩ := id V104
        have c125 : Steps p.tables e below S0 (T104.setTop (mkF m 212 #[.val (.int p0), .val (.int p1), .val (.int p2), .val (.int p3), .val (.int p4), .val (.int p5), .val (.int k3), .val (.ref pk), .val (.int (2 : Int32)), .val (.int (1 : Int32)), .val (.ref x26), .val (.ref x29), .val (.ref x32), .val (.ref x35), .val (.ref b83), .val (.ref b92), .unset, .unset, .unset, .unset] [(.int (p3 &&& (3 : Int32)))])) := c123.trans (by
          show Steps p.tables e below (T104.setTop (mkF m 209 #[.val (.int p0), .val (.int p1), .val (.int p2), .val (.int p3), .val (.int p4), .val (.int p5), .val (.int k3), .val (.ref pk), .val (.int (2 : Int32)), .val (.int (1 : Int32)), .val (.ref x26), .val (.ref x29), .val (.ref x32), .val (.ref x35), .val (.ref b83), .val (.ref b92), .unset, .unset, .unset, .unset] [(.int (1 : Int32)), (.ref b92)])) _
          refine X104.iaload hx (j := (1 : Int32)) (v := (.int p3)) (by rw [e104]; exact Ar124.1) (State.isArrayOf_alike hZ35.alike Ar124.2.1) Ar124.2.2 (inb_of S124 ⟨by decide, by decide⟩) (Ha124.at (inb_of S124 ⟨by decide, by decide⟩) rfl) (g := (mkF m 209 #[.val (.int p0), .val (.int p1), .val (.int p2), .val (.int p3), .val (.int p4), .val (.int p5), .val (.int k3), .val (.ref pk), .val (.int (2 : Int32)), .val (.int (1 : Int32)), .val (.ref x26), .val (.ref x29), .val (.ref x32), .val (.ref x35), .val (.ref b83), .val (.ref b92), .unset, .unset, .unset, .unset] [(.int (1 : Int32)), (.ref b92)])) rfl rfl (hb hby at_209) _ ?_
          refine XS.iconst X104.here hx rfl (hb hby at_210) ?_
          refine XS.iand X104.here hx rfl (hb hby at_211) rfl ?_
          exact Steps.refl _)
        obtain ⟨he, hhe, c128⟩ : ∃ (he : Int32), he = (if (p3 &&& (3 : Int32)) = (0 : Int32) then (1 : Int32) else (0 : Int32)) ∧ Steps p.tables e below S0 (T104.setTop (mkF m 220 #[.val (.int p0), .val (.int p1), .val (.int p2), .val (.int p3), .val (.int p4), .val (.int p5), .val (.int k3), .val (.ref pk), .val (.int (2 : Int32)), .val (.int (1 : Int32)), .val (.ref x26), .val (.ref x29), .val (.ref x32), .val (.ref x35), .val (.ref b83), .val (.ref b92), .unset, .unset, .unset, .unset] [(.int he)])) := by
          by_cases hq126 : (p3 &&& (3 : Int32)) = (0 : Int32)
          · exact ⟨_, (by rw [if_pos hq126]), c125.trans (by
              show Steps p.tables e below (T104.setTop (mkF m 212 #[.val (.int p0), .val (.int p1), .val (.int p2), .val (.int p3), .val (.int p4), .val (.int p5), .val (.int k3), .val (.ref pk), .val (.int (2 : Int32)), .val (.int (1 : Int32)), .val (.ref x26), .val (.ref x29), .val (.ref x32), .val (.ref x35), .val (.ref b83), .val (.ref b92), .unset, .unset, .unset, .unset] [(.int (p3 &&& (3 : Int32)))])) _
              refine XS.ifNo X104.here hx rfl (hb hby at_212) rfl ((if0 _ _).trans (teq hq126).2) ?_
              refine XS.iconst X104.here hx rfl (hb hby at_215) ?_
              refine XS.goto X104.here hx rfl (pc0 := 216) (pc' := 220) rfl (hb hby at_216) (by decide) (by decide) ?_
              exact Steps.refl _)⟩
          · exact ⟨_, (by rw [if_neg hq126]), c125.trans (by
              show Steps p.tables e below (T104.setTop (mkF m 212 #[.val (.int p0), .val (.int p1), .val (.int p2), .val (.int p3), .val (.int p4), .val (.int p5), .val (.int k3), .val (.ref pk), .val (.int (2 : Int32)), .val (.int (1 : Int32)), .val (.ref x26), .val (.ref x29), .val (.ref x32), .val (.ref x35), .val (.ref b83), .val (.ref b92), .unset, .unset, .unset, .unset] [(.int (p3 &&& (3 : Int32)))])) _
              refine XS.ifYes X104.here hx rfl (pc0 := 212) (pc' := 219) rfl (hb hby at_212) rfl ((if0 _ _).trans (feq hq126).2) (by decide) (by decide) ?_
              refine XS.iconst X104.here hx rfl (hb hby at_219) ?_
              exact Steps.refl _)⟩
        have c129 : Steps p.tables e below S0 (T104.setTop (mkF m 231 #[.val (.int p0), .val (.int p1), .val (.int p2), .val (.int p3), .val (.int p4), .val (.int p5), .val (.int k3), .val (.ref pk), .val (.int (2 : Int32)), .val (.int (1 : Int32)), .val (.ref x26), .val (.ref x29), .val (.ref x32), .val (.ref x35), .val (.ref b83), .val (.ref b92), .val (.int he), .val (.int (1 : Int32)), .unset, .unset] [(.int k3)])) := c128.trans (by
          show Steps p.tables e below (T104.setTop (mkF m 220 #[.val (.int p0), .val (.int p1), .val (.int p2), .val (.int p3), .val (.int p4), .val (.int p5), .val (.int k3), .val (.ref pk), .val (.int (2 : Int32)), .val (.int (1 : Int32)), .val (.ref x26), .val (.ref x29), .val (.ref x32), .val (.ref x35), .val (.ref b83), .val (.ref b92), .unset, .unset, .unset, .unset] [(.int he)])) _
          refine XS.istore X104.here hx rfl (hb hby at_220) rfl (l' := #[.val (.int p0), .val (.int p1), .val (.int p2), .val (.int p3), .val (.int p4), .val (.int p5), .val (.int k3), .val (.ref pk), .val (.int (2 : Int32)), .val (.int (1 : Int32)), .val (.ref x26), .val (.ref x29), .val (.ref x32), .val (.ref x35), .val (.ref b83), .val (.ref b92), .val (.int he), .unset, .unset, .unset]) rfl ?_
          refine XS.iload X104.here hx rfl (hb hby at_222) rfl ?_
          refine XS.iload X104.here hx rfl (hb hby at_224) rfl ?_
          refine XS.isub X104.here hx rfl (hb hby at_226) rfl ?_
          show Steps p.tables e below (T104.setTop (mkF m 227 #[.val (.int p0), .val (.int p1), .val (.int p2), .val (.int p3), .val (.int p4), .val (.int p5), .val (.int k3), .val (.ref pk), .val (.int (2 : Int32)), .val (.int (1 : Int32)), .val (.ref x26), .val (.ref x29), .val (.ref x32), .val (.ref x35), .val (.ref b83), .val (.ref b92), .val (.int he), .unset, .unset, .unset] [(.int (1 : Int32))])) _
          refine XS.istore X104.here hx rfl (hb hby at_227) rfl (l' := #[.val (.int p0), .val (.int p1), .val (.int p2), .val (.int p3), .val (.int p4), .val (.int p5), .val (.int k3), .val (.ref pk), .val (.int (2 : Int32)), .val (.int (1 : Int32)), .val (.ref x26), .val (.ref x29), .val (.ref x32), .val (.ref x35), .val (.ref b83), .val (.ref b92), .val (.int he), .val (.int (1 : Int32)), .unset, .unset]) rfl ?_
          refine XS.iload X104.here hx rfl (hb hby at_229) rfl ?_
          exact Steps.refl _)
        obtain ⟨ex, hex, c135⟩ : ∃ (ex : Int32), ex = (if k3 = (0 : Int32) then (if he = (0 : Int32) then (1 : Int32) else (0 : Int32)) else (if k3 = (1 : Int32) then (if he = (0 : Int32) then (1 : Int32) else (0 : Int32)) else (1 : Int32))) ∧ Steps p.tables e below S0 (T104.setTop (mkF m 281 #[.val (.int p0), .val (.int p1), .val (.int p2), .val (.int p3), .val (.int p4), .val (.int p5), .val (.int k3), .val (.ref pk), .val (.int (2 : Int32)), .val (.int (1 : Int32)), .val (.ref x26), .val (.ref x29), .val (.ref x32), .val (.ref x35), .val (.ref b83), .val (.ref b92), .val (.int he), .val (.int (1 : Int32)), .val (.int ex), .unset] [])) := by
          by_cases hq130 : k3 = (0 : Int32)
          · by_cases hq131 : he = (0 : Int32)
            · exact ⟨_, (by rw [if_pos hq130, if_pos hq131]), c129.trans (by
                show Steps p.tables e below (T104.setTop (mkF m 231 #[.val (.int p0), .val (.int p1), .val (.int p2), .val (.int p3), .val (.int p4), .val (.int p5), .val (.int k3), .val (.ref pk), .val (.int (2 : Int32)), .val (.int (1 : Int32)), .val (.ref x26), .val (.ref x29), .val (.ref x32), .val (.ref x35), .val (.ref b83), .val (.ref b92), .val (.int he), .val (.int (1 : Int32)), .unset, .unset] [(.int k3)])) _
                refine XS.ifNo X104.here hx rfl (hb hby at_231) rfl ((if0 _ _).trans (teq hq130).2) ?_
                refine XS.iload X104.here hx rfl (hb hby at_234) rfl ?_
                refine XS.ifYes X104.here hx rfl (pc0 := 236) (pc' := 243) rfl (hb hby at_236) rfl ((if0 _ _).trans (teq hq131).1) (by decide) (by decide) ?_
                refine XS.iconst X104.here hx rfl (hb hby at_243) ?_
                show Steps p.tables e below (T104.setTop (mkF m 244 #[.val (.int p0), .val (.int p1), .val (.int p2), .val (.int p3), .val (.int p4), .val (.int p5), .val (.int k3), .val (.ref pk), .val (.int (2 : Int32)), .val (.int (1 : Int32)), .val (.ref x26), .val (.ref x29), .val (.ref x32), .val (.ref x35), .val (.ref b83), .val (.ref b92), .val (.int he), .val (.int (1 : Int32)), .unset, .unset] [(.int (1 : Int32))])) _
                refine XS.istore X104.here hx rfl (hb hby at_244) rfl (l' := #[.val (.int p0), .val (.int p1), .val (.int p2), .val (.int p3), .val (.int p4), .val (.int p5), .val (.int k3), .val (.ref pk), .val (.int (2 : Int32)), .val (.int (1 : Int32)), .val (.ref x26), .val (.ref x29), .val (.ref x32), .val (.ref x35), .val (.ref b83), .val (.ref b92), .val (.int he), .val (.int (1 : Int32)), .val (.int (1 : Int32)), .unset]) rfl ?_
                refine XS.goto X104.here hx rfl (pc0 := 246) (pc' := 281) rfl (hb hby at_246) (by decide) (by decide) ?_
                exact Steps.refl _)⟩
            · exact ⟨_, (by rw [if_pos hq130, if_neg hq131]), c129.trans (by
                show Steps p.tables e below (T104.setTop (mkF m 231 #[.val (.int p0), .val (.int p1), .val (.int p2), .val (.int p3), .val (.int p4), .val (.int p5), .val (.int k3), .val (.ref pk), .val (.int (2 : Int32)), .val (.int (1 : Int32)), .val (.ref x26), .val (.ref x29), .val (.ref x32), .val (.ref x35), .val (.ref b83), .val (.ref b92), .val (.int he), .val (.int (1 : Int32)), .unset, .unset] [(.int k3)])) _
                refine XS.ifNo X104.here hx rfl (hb hby at_231) rfl ((if0 _ _).trans (teq hq130).2) ?_
                refine XS.iload X104.here hx rfl (hb hby at_234) rfl ?_
                refine XS.ifNo X104.here hx rfl (hb hby at_236) rfl ((if0 _ _).trans (feq hq131).1) ?_
                refine XS.iconst X104.here hx rfl (hb hby at_239) ?_
                show Steps p.tables e below (T104.setTop (mkF m 240 #[.val (.int p0), .val (.int p1), .val (.int p2), .val (.int p3), .val (.int p4), .val (.int p5), .val (.int k3), .val (.ref pk), .val (.int (2 : Int32)), .val (.int (1 : Int32)), .val (.ref x26), .val (.ref x29), .val (.ref x32), .val (.ref x35), .val (.ref b83), .val (.ref b92), .val (.int he), .val (.int (1 : Int32)), .unset, .unset] [(.int (0 : Int32))])) _
                refine XS.goto X104.here hx rfl (pc0 := 240) (pc' := 244) rfl (hb hby at_240) (by decide) (by decide) ?_
                refine XS.istore X104.here hx rfl (hb hby at_244) rfl (l' := #[.val (.int p0), .val (.int p1), .val (.int p2), .val (.int p3), .val (.int p4), .val (.int p5), .val (.int k3), .val (.ref pk), .val (.int (2 : Int32)), .val (.int (1 : Int32)), .val (.ref x26), .val (.ref x29), .val (.ref x32), .val (.ref x35), .val (.ref b83), .val (.ref b92), .val (.int he), .val (.int (1 : Int32)), .val (.int (0 : Int32)), .unset]) rfl ?_
                refine XS.goto X104.here hx rfl (pc0 := 246) (pc' := 281) rfl (hb hby at_246) (by decide) (by decide) ?_
                exact Steps.refl _)⟩
          · by_cases hq132 : k3 = (1 : Int32)
            · by_cases hq133 : he = (0 : Int32)
              · exact ⟨_, (by rw [if_neg hq130, if_pos hq132, if_pos hq133]), c129.trans (by
                  show Steps p.tables e below (T104.setTop (mkF m 231 #[.val (.int p0), .val (.int p1), .val (.int p2), .val (.int p3), .val (.int p4), .val (.int p5), .val (.int k3), .val (.ref pk), .val (.int (2 : Int32)), .val (.int (1 : Int32)), .val (.ref x26), .val (.ref x29), .val (.ref x32), .val (.ref x35), .val (.ref b83), .val (.ref b92), .val (.int he), .val (.int (1 : Int32)), .unset, .unset] [(.int k3)])) _
                  refine XS.ifYes X104.here hx rfl (pc0 := 231) (pc' := 249) rfl (hb hby at_231) rfl ((if0 _ _).trans (feq hq130).2) (by decide) (by decide) ?_
                  refine XS.iload X104.here hx rfl (hb hby at_249) rfl ?_
                  refine XS.iconst X104.here hx rfl (hb hby at_251) ?_
                  refine XS.icmpNo X104.here hx rfl (hb hby at_252) rfl (teq hq132).2 ?_
                  show Steps p.tables e below (T104.setTop (mkF m 255 #[.val (.int p0), .val (.int p1), .val (.int p2), .val (.int p3), .val (.int p4), .val (.int p5), .val (.int k3), .val (.ref pk), .val (.int (2 : Int32)), .val (.int (1 : Int32)), .val (.ref x26), .val (.ref x29), .val (.ref x32), .val (.ref x35), .val (.ref b83), .val (.ref b92), .val (.int he), .val (.int (1 : Int32)), .unset, .unset] [])) _
                  refine XS.iload X104.here hx rfl (hb hby at_255) rfl ?_
                  refine XS.iconst X104.here hx rfl (hb hby at_257) ?_
                  refine XS.icmpNo X104.here hx rfl (hb hby at_258) rfl (teq (by decide : ((1 : Int32) = (1 : Int32)))).2 ?_
                  refine XS.iload X104.here hx rfl (hb hby at_261) rfl ?_
                  show Steps p.tables e below (T104.setTop (mkF m 263 #[.val (.int p0), .val (.int p1), .val (.int p2), .val (.int p3), .val (.int p4), .val (.int p5), .val (.int k3), .val (.ref pk), .val (.int (2 : Int32)), .val (.int (1 : Int32)), .val (.ref x26), .val (.ref x29), .val (.ref x32), .val (.ref x35), .val (.ref b83), .val (.ref b92), .val (.int he), .val (.int (1 : Int32)), .unset, .unset] [(.int he)])) _
                  refine XS.ifYes X104.here hx rfl (pc0 := 263) (pc' := 270) rfl (hb hby at_263) rfl ((if0 _ _).trans (teq hq133).1) (by decide) (by decide) ?_
                  refine XS.iload X104.here hx rfl (hb hby at_270) rfl ?_
                  refine XS.istore X104.here hx rfl (hb hby at_272) rfl (l' := #[.val (.int p0), .val (.int p1), .val (.int p2), .val (.int p3), .val (.int p4), .val (.int p5), .val (.int k3), .val (.ref pk), .val (.int (2 : Int32)), .val (.int (1 : Int32)), .val (.ref x26), .val (.ref x29), .val (.ref x32), .val (.ref x35), .val (.ref b83), .val (.ref b92), .val (.int he), .val (.int (1 : Int32)), .val (.int (1 : Int32)), .unset]) rfl ?_
                  refine XS.goto X104.here hx rfl (pc0 := 274) (pc' := 281) rfl (hb hby at_274) (by decide) (by decide) ?_
                  exact Steps.refl _)⟩
              · exact ⟨_, (by rw [if_neg hq130, if_pos hq132, if_neg hq133]), c129.trans (by
                  show Steps p.tables e below (T104.setTop (mkF m 231 #[.val (.int p0), .val (.int p1), .val (.int p2), .val (.int p3), .val (.int p4), .val (.int p5), .val (.int k3), .val (.ref pk), .val (.int (2 : Int32)), .val (.int (1 : Int32)), .val (.ref x26), .val (.ref x29), .val (.ref x32), .val (.ref x35), .val (.ref b83), .val (.ref b92), .val (.int he), .val (.int (1 : Int32)), .unset, .unset] [(.int k3)])) _
                  refine XS.ifYes X104.here hx rfl (pc0 := 231) (pc' := 249) rfl (hb hby at_231) rfl ((if0 _ _).trans (feq hq130).2) (by decide) (by decide) ?_
                  refine XS.iload X104.here hx rfl (hb hby at_249) rfl ?_
                  refine XS.iconst X104.here hx rfl (hb hby at_251) ?_
                  refine XS.icmpNo X104.here hx rfl (hb hby at_252) rfl (teq hq132).2 ?_
                  show Steps p.tables e below (T104.setTop (mkF m 255 #[.val (.int p0), .val (.int p1), .val (.int p2), .val (.int p3), .val (.int p4), .val (.int p5), .val (.int k3), .val (.ref pk), .val (.int (2 : Int32)), .val (.int (1 : Int32)), .val (.ref x26), .val (.ref x29), .val (.ref x32), .val (.ref x35), .val (.ref b83), .val (.ref b92), .val (.int he), .val (.int (1 : Int32)), .unset, .unset] [])) _
                  refine XS.iload X104.here hx rfl (hb hby at_255) rfl ?_
                  refine XS.iconst X104.here hx rfl (hb hby at_257) ?_
                  refine XS.icmpNo X104.here hx rfl (hb hby at_258) rfl (teq (by decide : ((1 : Int32) = (1 : Int32)))).2 ?_
                  refine XS.iload X104.here hx rfl (hb hby at_261) rfl ?_
                  show Steps p.tables e below (T104.setTop (mkF m 263 #[.val (.int p0), .val (.int p1), .val (.int p2), .val (.int p3), .val (.int p4), .val (.int p5), .val (.int k3), .val (.ref pk), .val (.int (2 : Int32)), .val (.int (1 : Int32)), .val (.ref x26), .val (.ref x29), .val (.ref x32), .val (.ref x35), .val (.ref b83), .val (.ref b92), .val (.int he), .val (.int (1 : Int32)), .unset, .unset] [(.int he)])) _
                  refine XS.ifNo X104.here hx rfl (hb hby at_263) rfl ((if0 _ _).trans (feq hq133).1) ?_
                  refine XS.iconst X104.here hx rfl (hb hby at_266) ?_
                  refine XS.goto X104.here hx rfl (pc0 := 267) (pc' := 272) rfl (hb hby at_267) (by decide) (by decide) ?_
                  refine XS.istore X104.here hx rfl (hb hby at_272) rfl (l' := #[.val (.int p0), .val (.int p1), .val (.int p2), .val (.int p3), .val (.int p4), .val (.int p5), .val (.int k3), .val (.ref pk), .val (.int (2 : Int32)), .val (.int (1 : Int32)), .val (.ref x26), .val (.ref x29), .val (.ref x32), .val (.ref x35), .val (.ref b83), .val (.ref b92), .val (.int he), .val (.int (1 : Int32)), .val (.int (0 : Int32)), .unset]) rfl ?_
                  show Steps p.tables e below (T104.setTop (mkF m 274 #[.val (.int p0), .val (.int p1), .val (.int p2), .val (.int p3), .val (.int p4), .val (.int p5), .val (.int k3), .val (.ref pk), .val (.int (2 : Int32)), .val (.int (1 : Int32)), .val (.ref x26), .val (.ref x29), .val (.ref x32), .val (.ref x35), .val (.ref b83), .val (.ref b92), .val (.int he), .val (.int (1 : Int32)), .val (.int (0 : Int32)), .unset] [])) _
                  refine XS.goto X104.here hx rfl (pc0 := 274) (pc' := 281) rfl (hb hby at_274) (by decide) (by decide) ?_
                  exact Steps.refl _)⟩
            · exact ⟨_, (by rw [if_neg hq130, if_neg hq132]), c129.trans (by
                show Steps p.tables e below (T104.setTop (mkF m 231 #[.val (.int p0), .val (.int p1), .val (.int p2), .val (.int p3), .val (.int p4), .val (.int p5), .val (.int k3), .val (.ref pk), .val (.int (2 : Int32)), .val (.int (1 : Int32)), .val (.ref x26), .val (.ref x29), .val (.ref x32), .val (.ref x35), .val (.ref b83), .val (.ref b92), .val (.int he), .val (.int (1 : Int32)), .unset, .unset] [(.int k3)])) _
                refine XS.ifYes X104.here hx rfl (pc0 := 231) (pc' := 249) rfl (hb hby at_231) rfl ((if0 _ _).trans (feq hq130).2) (by decide) (by decide) ?_
                refine XS.iload X104.here hx rfl (hb hby at_249) rfl ?_
                refine XS.iconst X104.here hx rfl (hb hby at_251) ?_
                refine XS.icmpYes X104.here hx rfl (pc0 := 252) (pc' := 277) rfl (hb hby at_252) rfl (feq hq132).2 (by decide) (by decide) ?_
                show Steps p.tables e below (T104.setTop (mkF m 277 #[.val (.int p0), .val (.int p1), .val (.int p2), .val (.int p3), .val (.int p4), .val (.int p5), .val (.int k3), .val (.ref pk), .val (.int (2 : Int32)), .val (.int (1 : Int32)), .val (.ref x26), .val (.ref x29), .val (.ref x32), .val (.ref x35), .val (.ref b83), .val (.ref b92), .val (.int he), .val (.int (1 : Int32)), .unset, .unset] [])) _
                refine XS.iload X104.here hx rfl (hb hby at_277) rfl ?_
                refine XS.istore X104.here hx rfl (hb hby at_279) rfl (l' := #[.val (.int p0), .val (.int p1), .val (.int p2), .val (.int p3), .val (.int p4), .val (.int p5), .val (.int k3), .val (.ref pk), .val (.int (2 : Int32)), .val (.int (1 : Int32)), .val (.ref x26), .val (.ref x29), .val (.ref x32), .val (.ref x35), .val (.ref b83), .val (.ref b92), .val (.int he), .val (.int (1 : Int32)), .val (.int (1 : Int32)), .unset]) rfl ?_
                exact Steps.refl _)⟩
        have c136 : Steps p.tables e below S0 (T104.setTop (mkF m 287 #[.val (.int p0), .val (.int p1), .val (.int p2), .val (.int p3), .val (.int p4), .val (.int p5), .val (.int k3), .val (.ref pk), .val (.int (2 : Int32)), .val (.int (1 : Int32)), .val (.ref x26), .val (.ref x29), .val (.ref x32), .val (.ref x35), .val (.ref b83), .val (.ref b92), .val (.int he), .val (.int (1 : Int32)), .val (.int ex), .unset] [(.int (1 : Int32)), (.ref b83), (.ref pk)])) := c135.trans (by
          show Steps p.tables e below (T104.setTop (mkF m 281 #[.val (.int p0), .val (.int p1), .val (.int p2), .val (.int p3), .val (.int p4), .val (.int p5), .val (.int k3), .val (.ref pk), .val (.int (2 : Int32)), .val (.int (1 : Int32)), .val (.ref x26), .val (.ref x29), .val (.ref x32), .val (.ref x35), .val (.ref b83), .val (.ref b92), .val (.int he), .val (.int (1 : Int32)), .val (.int ex), .unset] [])) _
          refine XS.aload X104.here hx rfl (hb hby at_281) rfl rfl ?_
          refine XS.aload X104.here hx rfl (hb hby at_283) rfl rfl ?_
          refine XS.iload X104.here hx rfl (hb hby at_285) rfl ?_
          exact Steps.refl _)
        obtain ⟨cq137, kq137, q137a, q137b, q137c⟩ := isOf hZ35 e104 (((((((((((((xpk.ext X00.2).keep Kq26).keep Kq29).keep Kq32).keep Kq35).ext E83).wr W86).wr W89).ext E92).wr W95).wr W98).wr W101).wr W104)
        obtain ⟨_, _, ⟨T137, L137, kk137, nn137⟩, -, X137, ⟨Lc137, hQ137, l137, y137, z137⟩, st137⟩ := X104.virtualBack hx (y := (⟨"com/example/libroute/libroute/pattern/ParameterKind", "span", "([Ljava/lang/String;I)I"⟩ : MethodName)) (z := (⟨"com/example/libroute/libroute/pattern/ParameterKind", "span", "([Ljava/lang/String;I)I"⟩ : MethodName)) hown35 (mvT hZ35 (hw _ (List.mem_of_getElem? (i := 57) rfl))) (mvT hZ35 (hw _ (List.mem_of_getElem? (i := 58) rfl))) (notFace_of_selects (args := #[]) (mvT hZ35 (hw _ (List.mem_of_getElem? (i := 60) rfl)))) (mvT hZ35 (hw _ (List.mem_of_getElem? (i := 60) rfl))) (mvT hZ35 (hw _ (List.mem_of_getElem? (i := 59) rfl))) (by decide) (backOf (W := 0) (rmSp l Z a0 hw [] pk b83 rr te (2 : Int32) (1 : Int32) _ [(.ref x26), (.ref x29)] x29 t29 kb29 cs29 G1 h104 n0 z104 (((((((((((((Fp.ext X00.2).keep Kq26 nin0).keep Kq29 nin0).keep Kq32 nin0).keep Kq35 nin0).ext E83).other W86 (Or.inl (Nat.ne_of_lt (Nat.lt_of_lt_of_le (Nat.lt_of_lt_of_le (xpk.ext X00.2).lt (Nat.le_trans (Nat.le_trans (Nat.le_trans Kq26.1 Kq29.1) Kq32.1) Kq35.1)) (Nat.le_of_eq g83.symm))))).other W89 (Or.inl (Nat.ne_of_lt (Nat.lt_of_lt_of_le (Nat.lt_of_lt_of_le (xpk.ext X00.2).lt (Nat.le_trans (Nat.le_trans (Nat.le_trans Kq26.1 Kq29.1) Kq32.1) Kq35.1)) (Nat.le_of_eq g83.symm))))).ext E92).other W95 (Or.inl (Nat.ne_of_lt (Nat.lt_of_lt_of_le (Nat.lt_of_lt_of_le (xpk.ext X00.2).lt (Nat.le_trans (Nat.le_trans (Nat.le_trans (Nat.le_trans (Nat.le_trans (Nat.le_trans Kq26.1 Kq29.1) Kq32.1) Kq35.1) E83.1) (Keep.of_wr W86).1) (Keep.of_wr W89).1)) (Nat.le_of_eq g92.symm))))).other W98 (Or.inl (Nat.ne_of_lt (Nat.lt_of_lt_of_le (Nat.lt_of_lt_of_le (xpk.ext X00.2).lt (Nat.le_trans (Nat.le_trans (Nat.le_trans (Nat.le_trans (Nat.le_trans (Nat.le_trans Kq26.1 Kq29.1) Kq32.1) Kq35.1) E83.1) (Keep.of_wr W86).1) (Keep.of_wr W89).1)) (Nat.le_of_eq g92.symm))))).other W101 (Or.inl (Nat.ne_of_lt (Nat.lt_of_lt_of_le (Nat.lt_of_lt_of_le (xpk.ext X00.2).lt (Nat.le_trans (Nat.le_trans (Nat.le_trans (Nat.le_trans (Nat.le_trans (Nat.le_trans Kq26.1 Kq29.1) Kq32.1) Kq35.1) E83.1) (Keep.of_wr W86).1) (Keep.of_wr W89).1)) (Nat.le_of_eq g92.symm))))).other W104 (Or.inl (Nat.ne_of_lt (Nat.lt_of_lt_of_le (Nat.lt_of_lt_of_le (xpk.ext X00.2).lt (Nat.le_trans (Nat.le_trans (Nat.le_trans (Nat.le_trans (Nat.le_trans (Nat.le_trans Kq26.1 Kq29.1) Kq32.1) Kq35.1) E83.1) (Keep.of_wr W86).1) (Keep.of_wr W89).1)) (Nat.le_of_eq g92.symm))))) (((((((((((((Gp.ext X00.2).keep Kq26 nin0).keep Kq29 nin0).keep Kq32 nin0).keep Kq35 nin0).ext E83).other W86 (Or.inl (Nat.ne_of_lt (Nat.lt_of_lt_of_le (Nat.lt_of_lt_of_le (xpk.ext X00.2).lt (Nat.le_trans (Nat.le_trans (Nat.le_trans Kq26.1 Kq29.1) Kq32.1) Kq35.1)) (Nat.le_of_eq g83.symm))))).other W89 (Or.inl (Nat.ne_of_lt (Nat.lt_of_lt_of_le (Nat.lt_of_lt_of_le (xpk.ext X00.2).lt (Nat.le_trans (Nat.le_trans (Nat.le_trans Kq26.1 Kq29.1) Kq32.1) Kq35.1)) (Nat.le_of_eq g83.symm))))).ext E92).other W95 (Or.inl (Nat.ne_of_lt (Nat.lt_of_lt_of_le (Nat.lt_of_lt_of_le (xpk.ext X00.2).lt (Nat.le_trans (Nat.le_trans (Nat.le_trans (Nat.le_trans (Nat.le_trans (Nat.le_trans Kq26.1 Kq29.1) Kq32.1) Kq35.1) E83.1) (Keep.of_wr W86).1) (Keep.of_wr W89).1)) (Nat.le_of_eq g92.symm))))).other W98 (Or.inl (Nat.ne_of_lt (Nat.lt_of_lt_of_le (Nat.lt_of_lt_of_le (xpk.ext X00.2).lt (Nat.le_trans (Nat.le_trans (Nat.le_trans (Nat.le_trans (Nat.le_trans (Nat.le_trans Kq26.1 Kq29.1) Kq32.1) Kq35.1) E83.1) (Keep.of_wr W86).1) (Keep.of_wr W89).1)) (Nat.le_of_eq g92.symm))))).other W101 (Or.inl (Nat.ne_of_lt (Nat.lt_of_lt_of_le (Nat.lt_of_lt_of_le (xpk.ext X00.2).lt (Nat.le_trans (Nat.le_trans (Nat.le_trans (Nat.le_trans (Nat.le_trans (Nat.le_trans Kq26.1 Kq29.1) Kq32.1) Kq35.1) E83.1) (Keep.of_wr W86).1) (Keep.of_wr W89).1)) (Nat.le_of_eq g92.symm))))).other W104 (Or.inl (Nat.ne_of_lt (Nat.lt_of_lt_of_le (Nat.lt_of_lt_of_le (xpk.ext X00.2).lt (Nat.le_trans (Nat.le_trans (Nat.le_trans (Nat.le_trans (Nat.le_trans (Nat.le_trans Kq26.1 Kq29.1) Kq32.1) Kq35.1) E83.1) (Keep.of_wr W86).1) (Keep.of_wr W89).1)) (Nat.le_of_eq g92.symm))))) (((((V89.ext E92).other W95 (Nat.ne_of_lt (Nat.lt_of_lt_of_le (Nat.lt_of_lt_of_le lt_b83 (Nat.le_trans (Keep.of_wr W86).1 (Keep.of_wr W89).1)) (Nat.le_of_eq g92.symm)))).other W98 (Nat.ne_of_lt (Nat.lt_of_lt_of_le (Nat.lt_of_lt_of_le lt_b83 (Nat.le_trans (Keep.of_wr W86).1 (Keep.of_wr W89).1)) (Nat.le_of_eq g92.symm)))).other W101 (Nat.ne_of_lt (Nat.lt_of_lt_of_le (Nat.lt_of_lt_of_le lt_b83 (Nat.le_trans (Keep.of_wr W86).1 (Keep.of_wr W89).1)) (Nat.le_of_eq g92.symm)))).other W104 (Nat.ne_of_lt (Nat.lt_of_lt_of_le (Nat.lt_of_lt_of_le lt_b83 (Nat.le_trans (Keep.of_wr W86).1 (Keep.of_wr W89).1)) (Nat.le_of_eq g92.symm)))) ⟨by decide, by decide⟩ rfl ⟨((((((((((So29.1.keep Kq32).keep Kq35).ext E83).wr W86).wr W89).ext E92).wr W95).wr W98).wr W101).wr W104), ((((((((((So29.2.1.keep Kq32 nin0).keep Kq35 nin0).ext E83).other W86 (Or.inl (Nat.ne_of_lt (Nat.lt_of_lt_of_le (Nat.lt_of_lt_of_le lt_x29 (Nat.le_trans Kq32.1 Kq35.1)) (Nat.le_of_eq g83.symm))))).other W89 (Or.inl (Nat.ne_of_lt (Nat.lt_of_lt_of_le (Nat.lt_of_lt_of_le lt_x29 (Nat.le_trans Kq32.1 Kq35.1)) (Nat.le_of_eq g83.symm))))).ext E92).other W95 (Or.inl (Nat.ne_of_lt (Nat.lt_of_lt_of_le (Nat.lt_of_lt_of_le lt_x29 (Nat.le_trans (Nat.le_trans (Nat.le_trans (Nat.le_trans Kq32.1 Kq35.1) E83.1) (Keep.of_wr W86).1) (Keep.of_wr W89).1)) (Nat.le_of_eq g92.symm))))).other W98 (Or.inl (Nat.ne_of_lt (Nat.lt_of_lt_of_le (Nat.lt_of_lt_of_le lt_x29 (Nat.le_trans (Nat.le_trans (Nat.le_trans (Nat.le_trans Kq32.1 Kq35.1) E83.1) (Keep.of_wr W86).1) (Keep.of_wr W89).1)) (Nat.le_of_eq g92.symm))))).other W101 (Or.inl (Nat.ne_of_lt (Nat.lt_of_lt_of_le (Nat.lt_of_lt_of_le lt_x29 (Nat.le_trans (Nat.le_trans (Nat.le_trans (Nat.le_trans Kq32.1 Kq35.1) E83.1) (Keep.of_wr W86).1) (Keep.of_wr W89).1)) (Nat.le_of_eq g92.symm))))).other W104 (Or.inl (Nat.ne_of_lt (Nat.lt_of_lt_of_le (Nat.lt_of_lt_of_le lt_x29 (Nat.le_trans (Nat.le_trans (Nat.le_trans (Nat.le_trans Kq32.1 Kq35.1) E83.1) (Keep.of_wr W86).1) (Keep.of_wr W89).1)) (Nat.le_of_eq g92.symm))))), ((((((((((So29.2.2.1.keep Kq32 nin0).keep Kq35 nin0).ext E83).other W86 (Or.inl (Nat.ne_of_lt (Nat.lt_of_lt_of_le (Nat.lt_of_lt_of_le lt_x29 (Nat.le_trans Kq32.1 Kq35.1)) (Nat.le_of_eq g83.symm))))).other W89 (Or.inl (Nat.ne_of_lt (Nat.lt_of_lt_of_le (Nat.lt_of_lt_of_le lt_x29 (Nat.le_trans Kq32.1 Kq35.1)) (Nat.le_of_eq g83.symm))))).ext E92).other W95 (Or.inl (Nat.ne_of_lt (Nat.lt_of_lt_of_le (Nat.lt_of_lt_of_le lt_x29 (Nat.le_trans (Nat.le_trans (Nat.le_trans (Nat.le_trans Kq32.1 Kq35.1) E83.1) (Keep.of_wr W86).1) (Keep.of_wr W89).1)) (Nat.le_of_eq g92.symm))))).other W98 (Or.inl (Nat.ne_of_lt (Nat.lt_of_lt_of_le (Nat.lt_of_lt_of_le lt_x29 (Nat.le_trans (Nat.le_trans (Nat.le_trans (Nat.le_trans Kq32.1 Kq35.1) E83.1) (Keep.of_wr W86).1) (Keep.of_wr W89).1)) (Nat.le_of_eq g92.symm))))).other W101 (Or.inl (Nat.ne_of_lt (Nat.lt_of_lt_of_le (Nat.lt_of_lt_of_le lt_x29 (Nat.le_trans (Nat.le_trans (Nat.le_trans (Nat.le_trans Kq32.1 Kq35.1) E83.1) (Keep.of_wr W86).1) (Keep.of_wr W89).1)) (Nat.le_of_eq g92.symm))))).other W104 (Or.inl (Nat.ne_of_lt (Nat.lt_of_lt_of_le (Nat.lt_of_lt_of_le lt_x29 (Nat.le_trans (Nat.le_trans (Nat.le_trans (Nat.le_trans Kq32.1 Kq35.1) E83.1) (Keep.of_wr W86).1) (Keep.of_wr W89).1)) (Nat.le_of_eq g92.symm))))), ((((((((((So29.2.2.2.1.keep Kq32 nin0).keep Kq35 nin0).ext E83).other W86 (Nat.ne_of_lt (Nat.lt_of_lt_of_le (Nat.lt_of_lt_of_le lt_t29 (Nat.le_trans Kq32.1 Kq35.1)) (Nat.le_of_eq g83.symm)))).other W89 (Nat.ne_of_lt (Nat.lt_of_lt_of_le (Nat.lt_of_lt_of_le lt_t29 (Nat.le_trans Kq32.1 Kq35.1)) (Nat.le_of_eq g83.symm)))).ext E92).other W95 (Nat.ne_of_lt (Nat.lt_of_lt_of_le (Nat.lt_of_lt_of_le lt_t29 (Nat.le_trans (Nat.le_trans (Nat.le_trans (Nat.le_trans Kq32.1 Kq35.1) E83.1) (Keep.of_wr W86).1) (Keep.of_wr W89).1)) (Nat.le_of_eq g92.symm)))).other W98 (Nat.ne_of_lt (Nat.lt_of_lt_of_le (Nat.lt_of_lt_of_le lt_t29 (Nat.le_trans (Nat.le_trans (Nat.le_trans (Nat.le_trans Kq32.1 Kq35.1) E83.1) (Keep.of_wr W86).1) (Keep.of_wr W89).1)) (Nat.le_of_eq g92.symm)))).other W101 (Nat.ne_of_lt (Nat.lt_of_lt_of_le (Nat.lt_of_lt_of_le lt_t29 (Nat.le_trans (Nat.le_trans (Nat.le_trans (Nat.le_trans Kq32.1 Kq35.1) E83.1) (Keep.of_wr W86).1) (Keep.of_wr W89).1)) (Nat.le_of_eq g92.symm)))).other W104 (Nat.ne_of_lt (Nat.lt_of_lt_of_le (Nat.lt_of_lt_of_le lt_t29 (Nat.le_trans (Nat.le_trans (Nat.le_trans (Nat.le_trans Kq32.1 Kq35.1) E83.1) (Keep.of_wr W86).1) (Keep.of_wr W89).1)) (Nat.le_of_eq g92.symm)))), So29.2.2.2.2.1, So29.2.2.2.2.2⟩ O2 P5 ((((((((((((X00.keep Kq26 all0).keep Kq29 all0).keep Kq32 all0).keep Kq35 all0).ext E83).wr W86 (Nat.le_trans Z0 (Nat.le_trans K35.1 (Nat.le_of_eq g83.symm)))).wr W89 (Nat.le_trans Z0 (Nat.le_trans K35.1 (Nat.le_of_eq g83.symm)))).ext E92).wr W95 (Nat.le_trans Z0 (Nat.le_trans K89.1 (Nat.le_of_eq g92.symm)))).wr W98 (Nat.le_trans Z0 (Nat.le_trans K89.1 (Nat.le_of_eq g92.symm)))).wr W101 (Nat.le_trans Z0 (Nat.le_trans K89.1 (Nat.le_of_eq g92.symm)))).wr W104 (Nat.le_trans Z0 (Nat.le_trans K89.1 (Nat.le_of_eq g92.symm))))) hZ35 (hw _ (List.mem_of_getElem? (i := 61) rfl)) (hw _ (List.mem_of_getElem? (i := 2) rfl)) (by decide) (by decide)) q137a q137c (g := (mkF m 287 #[.val (.int p0), .val (.int p1), .val (.int p2), .val (.int p3), .val (.int p4), .val (.int p5), .val (.int k3), .val (.ref pk), .val (.int (2 : Int32)), .val (.int (1 : Int32)), .val (.ref x26), .val (.ref x29), .val (.ref x32), .val (.ref x35), .val (.ref b83), .val (.ref b92), .val (.int he), .val (.int (1 : Int32)), .val (.int ex), .unset] [(.int (1 : Int32)), (.ref b83), (.ref pk)])) rfl (by rw [hml]; rfl) (Steps.refl _) (argsL := [(.ref b83), (.int (1 : Int32))]) (rest := []) (lenOf pd_oaLjavaslangsStringeIcI rfl) rfl (by show 2 * 0 + _ ≤ _; exact Nat.le_of_eq rfl) (hb hby at_287) (fun _ _ => ⟨rfl, e104, (by decide : 26 + 0 ≤ _), (by decide : 54 + 0 ≤ _)⟩)
        dsimp only [Pt.U, Pt.locs, Pt.cells, Pt.slots] at X137 l137 y137 z137 st137 hQ137
        subst l137 y137 z137
        obtain ⟨rfl, Nq137, eq137⟩ := hQ137
        have c138 : Steps p.tables e below S0 (T137.setTop (mkF m 290 #[.val (.int p0), .val (.int p1), .val (.int p2), .val (.int p3), .val (.int p4), .val (.int p5), .val (.int k3), .val (.ref pk), .val (.int (2 : Int32)), .val (.int (1 : Int32)), .val (.ref x26), .val (.ref x29), .val (.ref x32), .val (.ref x35), .val (.ref b83), .val (.ref b92), .val (.int he), .val (.int (1 : Int32)), .val (.int ex), .unset] [(.int (own_span rr te (2 : Int32) (1 : Int32) cs29.length))])) := c136.trans (st137)
        have N137 := Fr.app N104 Nq137
        have c139 : Steps p.tables e below S0 (T137.setTop (mkF m 304 #[.val (.int p0), .val (.int p1), .val (.int p2), .val (.int p3), .val (.int p4), .val (.int p5), .val (.int k3), .val (.ref pk), .val (.int (2 : Int32)), .val (.int (1 : Int32)), .val (.ref x26), .val (.ref x29), .val (.ref x32), .val (.ref x35), .val (.ref b83), .val (.ref b92), .val (.int he), .val (.int (1 : Int32)), .val (.int ex), .val (.int (own_span rr te (2 : Int32) (1 : Int32) cs29.length))] [(.int (1 : Int32))])) := c138.trans (by
          show Steps p.tables e below (T137.setTop (mkF m 290 #[.val (.int p0), .val (.int p1), .val (.int p2), .val (.int p3), .val (.int p4), .val (.int p5), .val (.int k3), .val (.ref pk), .val (.int (2 : Int32)), .val (.int (1 : Int32)), .val (.ref x26), .val (.ref x29), .val (.ref x32), .val (.ref x35), .val (.ref b83), .val (.ref b92), .val (.int he), .val (.int (1 : Int32)), .val (.int ex), .unset] [(.int (own_span rr te (2 : Int32) (1 : Int32) cs29.length))])) _
          refine XS.istore X137.here hx rfl (hb hby at_290) rfl (l' := #[.val (.int p0), .val (.int p1), .val (.int p2), .val (.int p3), .val (.int p4), .val (.int p5), .val (.int k3), .val (.ref pk), .val (.int (2 : Int32)), .val (.int (1 : Int32)), .val (.ref x26), .val (.ref x29), .val (.ref x32), .val (.ref x35), .val (.ref b83), .val (.ref b92), .val (.int he), .val (.int (1 : Int32)), .val (.int ex), .val (.int (own_span rr te (2 : Int32) (1 : Int32) cs29.length))]) rfl ?_
          refine XS.iload X137.here hx rfl (hb hby at_292) rfl ?_
          refine XS.iload X137.here hx rfl (hb hby at_294) rfl ?_
          refine XS.icmpNo X137.here hx rfl (hb hby at_296) rfl (teq (own_ex21 hkk em29 hhe hex)).2 ?_
          show Steps p.tables e below (T137.setTop (mkF m 299 #[.val (.int p0), .val (.int p1), .val (.int p2), .val (.int p3), .val (.int p4), .val (.int p5), .val (.int k3), .val (.ref pk), .val (.int (2 : Int32)), .val (.int (1 : Int32)), .val (.ref x26), .val (.ref x29), .val (.ref x32), .val (.ref x35), .val (.ref b83), .val (.ref b92), .val (.int he), .val (.int (1 : Int32)), .val (.int ex), .val (.int (own_span rr te (2 : Int32) (1 : Int32) cs29.length))] [])) _
          refine XS.iconst X137.here hx rfl (hb hby at_299) ?_
          refine XS.goto X137.here hx rfl (pc0 := 300) (pc' := 304) rfl (hb hby at_300) (by decide) (by decide) ?_
          exact Steps.refl _)
        obtain ⟨fs, hr, hrun, hended, hW⟩ := X137.leaveW hS35 (by rw [eq137]; exact (Nat.le_trans (Nat.le_refl _) (Nat.le_trans (Nat.le_trans (Nat.le_trans (Nat.le_trans (Nat.le_trans (Nat.le_trans (Nat.le_trans E83.1 (Keep.of_wr W86).1) (Keep.of_wr W89).1) E92.1) (Keep.of_wr W95).1) (Keep.of_wr W98).1) (Keep.of_wr W101).1) (Keep.of_wr W104).1))) (v := some (.int (1 : Int32))) (fun h => by rw [Bd.returns] at h; cases h)
        refine ⟨_, _, c139.trans (retOut X137 hx Bd.returns rfl (Or.inl ⟨rfl, by simp, _, rfl⟩) (hb hby at_304) hr), hrun, hended, _, _, rfl, ?_, ?_, hW.1, hW.2.1, hW.2.2.1, hW.2.2.2.mono (by decide) (by decide)⟩
        · show Q0 Z  h0 n0 _ T137.heap _
          rw [eq137]
          exact ⟨rfl, N137⟩
        · show CHr Z EL s.vm s.heap T137.vm T137.heap
          rw [hh, eq137]; exact R104.trans (CHv.at X137 hZ35 hEL R104.1)
    · have c140 : Steps p.tables e below S0 (T35.setTop (mkF m 129 #[.val (.int p0), .val (.int p1), .val (.int p2), .val (.int p3), .val (.int p4), .val (.int p5), .val (.int k3), .val (.ref pk), .val (.int nn), .val (.int ix), .val (.ref x26), .val (.ref x29), .val (.ref x32), .val (.ref x35), .unset, .unset, .unset, .unset, .unset, .unset] [(.int (3 : Int32)), (.int nn)])) := c79.trans (by
        show Steps p.tables e below (T35.setTop (mkF m 104 #[.val (.int p0), .val (.int p1), .val (.int p2), .val (.int p3), .val (.int p4), .val (.int p5), .val (.int k3), .val (.ref pk), .val (.int nn), .val (.int ix), .val (.ref x26), .val (.ref x29), .val (.ref x32), .val (.ref x35), .unset, .unset, .unset, .unset, .unset, .unset] [(.int (2 : Int32)), (.int nn)])) _
        refine XS.icmpYes X35.here hx rfl (pc0 := 104) (pc' := 126) rfl (hb hby at_104) rfl (feq hq80).2 (by decide) (by decide) ?_
        refine XS.iload X35.here hx rfl (hb hby at_126) rfl ?_
        refine XS.iconst X35.here hx rfl (hb hby at_128) ?_
        exact Steps.refl _)
      by_cases hq141 : nn = (3 : Int32)
      · have c142 : Steps p.tables e below S0 (T35.setTop (mkF m 132 #[.val (.int p0), .val (.int p1), .val (.int p2), .val (.int p3), .val (.int p4), .val (.int p5), .val (.int k3), .val (.ref pk), .val (.int nn), .val (.int ix), .val (.ref x26), .val (.ref x29), .val (.ref x32), .val (.ref x35), .unset, .unset, .unset, .unset, .unset, .unset] [])) := c140.trans (by
          show Steps p.tables e below (T35.setTop (mkF m 129 #[.val (.int p0), .val (.int p1), .val (.int p2), .val (.int p3), .val (.int p4), .val (.int p5), .val (.int k3), .val (.ref pk), .val (.int nn), .val (.int ix), .val (.ref x26), .val (.ref x29), .val (.ref x32), .val (.ref x35), .unset, .unset, .unset, .unset, .unset, .unset] [(.int (3 : Int32)), (.int nn)])) _
          refine XS.icmpNo X35.here hx rfl (hb hby at_129) rfl (teq hq141).2 ?_
          exact Steps.refl _)
        rw [hq141] at c142
        have hix3 := own_ix3 (hq141 ▸ hix2)
        have c143 : Steps p.tables e below S0 (T35.setTop (mkF m 133 #[.val (.int p0), .val (.int p1), .val (.int p2), .val (.int p3), .val (.int p4), .val (.int p5), .val (.int k3), .val (.ref pk), .val (.int (3 : Int32)), .val (.int ix), .val (.ref x26), .val (.ref x29), .val (.ref x32), .val (.ref x35), .unset, .unset, .unset, .unset, .unset, .unset] [(.int (3 : Int32))])) := c142.trans (by
          show Steps p.tables e below (T35.setTop (mkF m 132 #[.val (.int p0), .val (.int p1), .val (.int p2), .val (.int p3), .val (.int p4), .val (.int p5), .val (.int k3), .val (.ref pk), .val (.int (3 : Int32)), .val (.int ix), .val (.ref x26), .val (.ref x29), .val (.ref x32), .val (.ref x35), .unset, .unset, .unset, .unset, .unset, .unset] [])) _
          refine XS.iconst X35.here hx rfl (hb hby at_132) ?_
          exact Steps.refl _)
        obtain ⟨T144, h144, k144, X144, e144, E144, A144, O144, st144⟩ := newR X35 hx hZ35 hown35 (hw _ (List.mem_of_getElem? (i := 8) rfl)) (hw _ (List.mem_of_getElem? (i := 55) rfl)) rfl (g := (mkF m 133 #[.val (.int p0), .val (.int p1), .val (.int p2), .val (.int p3), .val (.int p4), .val (.int p5), .val (.int k3), .val (.ref pk), .val (.int (3 : Int32)), .val (.int ix), .val (.ref x26), .val (.ref x29), .val (.ref x32), .val (.ref x35), .unset, .unset, .unset, .unset, .unset, .unset] [(.int (3 : Int32))])) rfl (hb hby at_133) rfl (by decide) (cap := 3) (by decide) (by decide) (by decide) (by decide)
        obtain ⟨b144, g144⟩ : ∃ z, z = T35.heap.size := ⟨_, rfl⟩
        rw [← g144] at A144 st144
        have c145 : Steps p.tables e below S0 (T144.setTop (mkF m 136 #[.val (.int p0), .val (.int p1), .val (.int p2), .val (.int p3), .val (.int p4), .val (.int p5), .val (.int k3), .val (.ref pk), .val (.int (3 : Int32)), .val (.int ix), .val (.ref x26), .val (.ref x29), .val (.ref x32), .val (.ref x35), .unset, .unset, .unset, .unset, .unset, .unset] [(.ref b144)])) := c143.trans (st144 _ (Steps.refl _))
        have z144 : n0 ≤ h144.size := Nat.le_trans z35 E144.1
        have K144 := K35.ext E144
        have r144 : CHr Z EL T35.vm T35.heap T35.vm h144 := CHr.ext E144 R35.1
        have R144 := R35.trans r144
        have V144 : Arv Z h144 b144 k144 (.object "java/lang/String") (3 : Int32) [.null, .null, .null] .null := (Arv.new A144 (by decide)).pad (pad_rep [] .null 3)
        have lt_b144 : b144 < h144.size := V144.lt
        have c146 : Steps p.tables e below S0 (T144.setTop (mkF m 140 #[.val (.int p0), .val (.int p1), .val (.int p2), .val (.int p3), .val (.int p4), .val (.int p5), .val (.int k3), .val (.ref pk), .val (.int (3 : Int32)), .val (.int ix), .val (.ref x26), .val (.ref x29), .val (.ref x32), .val (.ref x35), .unset, .unset, .unset, .unset, .unset, .unset] [(.ref x26), (.int (0 : Int32)), (.ref b144), (.ref b144)])) := c145.trans (by
          show Steps p.tables e below (T144.setTop (mkF m 136 #[.val (.int p0), .val (.int p1), .val (.int p2), .val (.int p3), .val (.int p4), .val (.int p5), .val (.int k3), .val (.ref pk), .val (.int (3 : Int32)), .val (.int ix), .val (.ref x26), .val (.ref x29), .val (.ref x32), .val (.ref x35), .unset, .unset, .unset, .unset, .unset, .unset] [(.ref b144)])) _
          refine XS.dup X144.here hx rfl (hb hby at_136) rfl rfl ?_
          refine XS.iconst X144.here hx rfl (hb hby at_137) ?_
          refine XS.aload X144.here hx rfl (hb hby at_138) rfl rfl ?_
          exact Steps.refl _)
        obtain ⟨cl147, Ar147, q147, S147, Nn147, Ha147, G147⟩ := id V144
        obtain ⟨T147, h147, X147, e147, W147, st147⟩ := stR X144 hx hZ35 e144 Ar147 (j := (0 : Int32)) (inb_of S147 ⟨by decide, by decide⟩) rfl (Sto.ofV Ar147 q147 O144 (Ins.self ((((So26.1.keep Kq29).keep Kq32).keep Kq35).ext E144))) (g := (mkF m 140 #[.val (.int p0), .val (.int p1), .val (.int p2), .val (.int p3), .val (.int p4), .val (.int p5), .val (.int k3), .val (.ref pk), .val (.int (3 : Int32)), .val (.int ix), .val (.ref x26), .val (.ref x29), .val (.ref x32), .val (.ref x35), .unset, .unset, .unset, .unset, .unset, .unset] [(.ref x26), (.int (0 : Int32)), (.ref b144), (.ref b144)])) rfl rfl (hb hby at_140)
        have V147 : Arv Z h147 b144 k144 (.object "java/lang/String") (3 : Int32) [(.ref x26), .null, .null] .null := Arv.set Ar147 q147 S147 Nn147 Ha147 G147 rfl W147 0 rfl (Nat.le_of_ble_eq_true rfl)
        have c148 : Steps p.tables e below S0 (T147.setTop (mkF m 141 #[.val (.int p0), .val (.int p1), .val (.int p2), .val (.int p3), .val (.int p4), .val (.int p5), .val (.int k3), .val (.ref pk), .val (.int (3 : Int32)), .val (.int ix), .val (.ref x26), .val (.ref x29), .val (.ref x32), .val (.ref x35), .unset, .unset, .unset, .unset, .unset, .unset] [(.ref b144)])) := c146.trans (st147 _ (Steps.refl _))
        have N147 := Fr.snoc X147 N35 (Nat.le_trans Z0 (Nat.le_trans K35.1 (Nat.le_of_eq g144.symm)))
        have z147 : n0 ≤ h147.size := Nat.le_trans z144 (Keep.of_wr W147).1
        have K147 := K144.wr W147 (Or.inr (Nat.le_trans K35.1 (Nat.le_of_eq g144.symm)))
        have r147 : CHr Z EL T35.vm h144 T35.vm h147 := CHr.wr W147 (Safe.arv hZ35.alike V144 (by decide)) R144.1
        have R147 := R144.trans r147
        have c149 : Steps p.tables e below S0 (T147.setTop (mkF m 145 #[.val (.int p0), .val (.int p1), .val (.int p2), .val (.int p3), .val (.int p4), .val (.int p5), .val (.int k3), .val (.ref pk), .val (.int (3 : Int32)), .val (.int ix), .val (.ref x26), .val (.ref x29), .val (.ref x32), .val (.ref x35), .unset, .unset, .unset, .unset, .unset, .unset] [(.ref x29), (.int (1 : Int32)), (.ref b144), (.ref b144)])) := c148.trans (by
          show Steps p.tables e below (T147.setTop (mkF m 141 #[.val (.int p0), .val (.int p1), .val (.int p2), .val (.int p3), .val (.int p4), .val (.int p5), .val (.int k3), .val (.ref pk), .val (.int (3 : Int32)), .val (.int ix), .val (.ref x26), .val (.ref x29), .val (.ref x32), .val (.ref x35), .unset, .unset, .unset, .unset, .unset, .unset] [(.ref b144)])) _
          refine XS.dup X147.here hx rfl (hb hby at_141) rfl rfl ?_
          refine XS.iconst X147.here hx rfl (hb hby at_142) ?_
          refine XS.aload X147.here hx rfl (hb hby at_143) rfl rfl ?_
          exact Steps.refl _)
        obtain ⟨cl150, Ar150, q150, S150, Nn150, Ha150, G150⟩ := id V147
        obtain ⟨T150, h150, X150, e150, W150, st150⟩ := stR X147 hx hZ35 e147 Ar150 (j := (1 : Int32)) (inb_of S150 ⟨by decide, by decide⟩) rfl (Sto.ofV Ar150 q150 O144 (Ins.self ((((So29.1.keep Kq32).keep Kq35).ext E144).wr W147))) (g := (mkF m 145 #[.val (.int p0), .val (.int p1), .val (.int p2), .val (.int p3), .val (.int p4), .val (.int p5), .val (.int k3), .val (.ref pk), .val (.int (3 : Int32)), .val (.int ix), .val (.ref x26), .val (.ref x29), .val (.ref x32), .val (.ref x35), .unset, .unset, .unset, .unset, .unset, .unset] [(.ref x29), (.int (1 : Int32)), (.ref b144), (.ref b144)])) rfl rfl (hb hby at_145)
        have V150 : Arv Z h150 b144 k144 (.object "java/lang/String") (3 : Int32) [(.ref x26), (.ref x29), .null] .null := Arv.set Ar150 q150 S150 Nn150 Ha150 G150 rfl W150 1 rfl (Nat.le_of_ble_eq_true rfl)
        have c151 : Steps p.tables e below S0 (T150.setTop (mkF m 146 #[.val (.int p0), .val (.int p1), .val (.int p2), .val (.int p3), .val (.int p4), .val (.int p5), .val (.int k3), .val (.ref pk), .val (.int (3 : Int32)), .val (.int ix), .val (.ref x26), .val (.ref x29), .val (.ref x32), .val (.ref x35), .unset, .unset, .unset, .unset, .unset, .unset] [(.ref b144)])) := c149.trans (st150 _ (Steps.refl _))
        have N150 := Fr.snoc X150 N147 (Nat.le_trans Z0 (Nat.le_trans K35.1 (Nat.le_of_eq g144.symm)))
        have z150 : n0 ≤ h150.size := Nat.le_trans z147 (Keep.of_wr W150).1
        have K150 := K147.wr W150 (Or.inr (Nat.le_trans K35.1 (Nat.le_of_eq g144.symm)))
        have r150 : CHr Z EL T35.vm h147 T35.vm h150 := CHr.wr W150 (Safe.arv hZ35.alike V147 (by decide)) R147.1
        have R150 := R147.trans r150
        have c152 : Steps p.tables e below S0 (T150.setTop (mkF m 150 #[.val (.int p0), .val (.int p1), .val (.int p2), .val (.int p3), .val (.int p4), .val (.int p5), .val (.int k3), .val (.ref pk), .val (.int (3 : Int32)), .val (.int ix), .val (.ref x26), .val (.ref x29), .val (.ref x32), .val (.ref x35), .unset, .unset, .unset, .unset, .unset, .unset] [(.ref x32), (.int (2 : Int32)), (.ref b144), (.ref b144)])) := c151.trans (by
          show Steps p.tables e below (T150.setTop (mkF m 146 #[.val (.int p0), .val (.int p1), .val (.int p2), .val (.int p3), .val (.int p4), .val (.int p5), .val (.int k3), .val (.ref pk), .val (.int (3 : Int32)), .val (.int ix), .val (.ref x26), .val (.ref x29), .val (.ref x32), .val (.ref x35), .unset, .unset, .unset, .unset, .unset, .unset] [(.ref b144)])) _
          refine XS.dup X150.here hx rfl (hb hby at_146) rfl rfl ?_
          refine XS.iconst X150.here hx rfl (hb hby at_147) ?_
          refine XS.aload X150.here hx rfl (hb hby at_148) rfl rfl ?_
          exact Steps.refl _)
        obtain ⟨cl153, Ar153, q153, S153, Nn153, Ha153, G153⟩ := id V150
        obtain ⟨T153, h153, X153, e153, W153, st153⟩ := stR X150 hx hZ35 e150 Ar153 (j := (2 : Int32)) (inb_of S153 ⟨by decide, by decide⟩) rfl (Sto.ofV Ar153 q153 O144 (Ins.self ((((So32.1.keep Kq35).ext E144).wr W147).wr W150))) (g := (mkF m 150 #[.val (.int p0), .val (.int p1), .val (.int p2), .val (.int p3), .val (.int p4), .val (.int p5), .val (.int k3), .val (.ref pk), .val (.int (3 : Int32)), .val (.int ix), .val (.ref x26), .val (.ref x29), .val (.ref x32), .val (.ref x35), .unset, .unset, .unset, .unset, .unset, .unset] [(.ref x32), (.int (2 : Int32)), (.ref b144), (.ref b144)])) rfl rfl (hb hby at_150)
        have V153 : Arv Z h153 b144 k144 (.object "java/lang/String") (3 : Int32) [(.ref x26), (.ref x29), (.ref x32)] .null := Arv.set Ar153 q153 S153 Nn153 Ha153 G153 rfl W153 2 rfl (Nat.le_of_ble_eq_true rfl)
        have c154 : Steps p.tables e below S0 (T153.setTop (mkF m 151 #[.val (.int p0), .val (.int p1), .val (.int p2), .val (.int p3), .val (.int p4), .val (.int p5), .val (.int k3), .val (.ref pk), .val (.int (3 : Int32)), .val (.int ix), .val (.ref x26), .val (.ref x29), .val (.ref x32), .val (.ref x35), .unset, .unset, .unset, .unset, .unset, .unset] [(.ref b144)])) := c152.trans (st153 _ (Steps.refl _))
        have N153 := Fr.snoc X153 N150 (Nat.le_trans Z0 (Nat.le_trans K35.1 (Nat.le_of_eq g144.symm)))
        have z153 : n0 ≤ h153.size := Nat.le_trans z150 (Keep.of_wr W153).1
        have K153 := K150.wr W153 (Or.inr (Nat.le_trans K35.1 (Nat.le_of_eq g144.symm)))
        have r153 : CHr Z EL T35.vm h150 T35.vm h153 := CHr.wr W153 (Safe.arv hZ35.alike V150 (by decide)) R150.1
        have R153 := R150.trans r153
        have c155 : Steps p.tables e below S0 (T153.setTop (mkF m 183 #[.val (.int p0), .val (.int p1), .val (.int p2), .val (.int p3), .val (.int p4), .val (.int p5), .val (.int k3), .val (.ref pk), .val (.int (3 : Int32)), .val (.int ix), .val (.ref x26), .val (.ref x29), .val (.ref x32), .val (.ref x35), .val (.ref b144), .unset, .unset, .unset, .unset, .unset] [(.int (4 : Int32))])) := c154.trans (by
          show Steps p.tables e below (T153.setTop (mkF m 151 #[.val (.int p0), .val (.int p1), .val (.int p2), .val (.int p3), .val (.int p4), .val (.int p5), .val (.int k3), .val (.ref pk), .val (.int (3 : Int32)), .val (.int ix), .val (.ref x26), .val (.ref x29), .val (.ref x32), .val (.ref x35), .unset, .unset, .unset, .unset, .unset, .unset] [(.ref b144)])) _
          refine XS.astore X153.here hx rfl (hb hby at_151) rfl rfl (l' := #[.val (.int p0), .val (.int p1), .val (.int p2), .val (.int p3), .val (.int p4), .val (.int p5), .val (.int k3), .val (.ref pk), .val (.int (3 : Int32)), .val (.int ix), .val (.ref x26), .val (.ref x29), .val (.ref x32), .val (.ref x35), .val (.ref b144), .unset, .unset, .unset, .unset, .unset]) rfl ?_
          refine XS.goto X153.here hx rfl (pc0 := 153) (pc' := 182) rfl (hb hby at_153) (by decide) (by decide) ?_
          refine XS.iconst X153.here hx rfl (hb hby at_182) ?_
          exact Steps.refl _)
        obtain ⟨T156, h156, k156, X156, e156, E156, A156, st156⟩ := newP X153 hx hZ35 (hw _ (List.mem_of_getElem? (i := 56) rfl)) e153 (g := (mkF m 183 #[.val (.int p0), .val (.int p1), .val (.int p2), .val (.int p3), .val (.int p4), .val (.int p5), .val (.int k3), .val (.ref pk), .val (.int (3 : Int32)), .val (.int ix), .val (.ref x26), .val (.ref x29), .val (.ref x32), .val (.ref x35), .val (.ref b144), .unset, .unset, .unset, .unset, .unset] [(.int (4 : Int32))])) rfl (hb hby at_183) rfl (by decide) (cap := 4) (by decide) (by decide) (by decide) (by decide)
        obtain ⟨b156, g156⟩ : ∃ z, z = h153.size := ⟨_, rfl⟩
        rw [← g156] at A156 st156
        have c157 : Steps p.tables e below S0 (T156.setTop (mkF m 185 #[.val (.int p0), .val (.int p1), .val (.int p2), .val (.int p3), .val (.int p4), .val (.int p5), .val (.int k3), .val (.ref pk), .val (.int (3 : Int32)), .val (.int ix), .val (.ref x26), .val (.ref x29), .val (.ref x32), .val (.ref x35), .val (.ref b144), .unset, .unset, .unset, .unset, .unset] [(.ref b156)])) := c155.trans (st156 _ (Steps.refl _))
        have z156 : n0 ≤ h156.size := Nat.le_trans z153 E156.1
        have K156 := K153.ext E156
        have r156 : CHr Z EL T35.vm h153 T35.vm h156 := CHr.ext E156 R153.1
        have R156 := R153.trans r156
        have V156 : Arv Z h156 b156 k156 .int (4 : Int32) [(.int (0 : Int32)), (.int (0 : Int32)), (.int (0 : Int32)), (.int (0 : Int32))] (.int (0 : Int32)) := (Arv.new A156 (by decide)).pad (pad_rep [] (.int (0 : Int32)) 4)
        have lt_b156 : b156 < h156.size := V156.lt
        have c158 : Steps p.tables e below S0 (T156.setTop (mkF m 188 #[.val (.int p0), .val (.int p1), .val (.int p2), .val (.int p3), .val (.int p4), .val (.int p5), .val (.int k3), .val (.ref pk), .val (.int (3 : Int32)), .val (.int ix), .val (.ref x26), .val (.ref x29), .val (.ref x32), .val (.ref x35), .val (.ref b144), .unset, .unset, .unset, .unset, .unset] [(.int p2), (.int (0 : Int32)), (.ref b156), (.ref b156)])) := c157.trans (by
          show Steps p.tables e below (T156.setTop (mkF m 185 #[.val (.int p0), .val (.int p1), .val (.int p2), .val (.int p3), .val (.int p4), .val (.int p5), .val (.int k3), .val (.ref pk), .val (.int (3 : Int32)), .val (.int ix), .val (.ref x26), .val (.ref x29), .val (.ref x32), .val (.ref x35), .val (.ref b144), .unset, .unset, .unset, .unset, .unset] [(.ref b156)])) _
          refine XS.dup X156.here hx rfl (hb hby at_185) rfl rfl ?_
          refine XS.iconst X156.here hx rfl (hb hby at_186) ?_
          refine XS.iloadN X156.here hx rfl (hb hby at_187) rfl ?_
          exact Steps.refl _)
        obtain ⟨cl159, Ar159, q159, S159, Nn159, Ha159, G159⟩ := id V156
        obtain ⟨T159, h159, X159, e159, W159, st159⟩ := stI X156 hx hZ35 e156 Ar159 (j := (0 : Int32)) (inb_of S159 ⟨by decide, by decide⟩) (g := (mkF m 188 #[.val (.int p0), .val (.int p1), .val (.int p2), .val (.int p3), .val (.int p4), .val (.int p5), .val (.int k3), .val (.ref pk), .val (.int (3 : Int32)), .val (.int ix), .val (.ref x26), .val (.ref x29), .val (.ref x32), .val (.ref x35), .val (.ref b144), .unset, .unset, .unset, .unset, .unset] [(.int p2), (.int (0 : Int32)), (.ref b156), (.ref b156)])) rfl rfl (hb hby at_188)
        have V159 : Arv Z h159 b156 k156 .int (4 : Int32) [(.int p2), (.int (0 : Int32)), (.int (0 : Int32)), (.int (0 : Int32))] (.int (0 : Int32)) := Arv.set Ar159 q159 S159 Nn159 Ha159 G159 rfl W159 0 rfl (Nat.le_of_ble_eq_true rfl)
        have c160 : Steps p.tables e below S0 (T159.setTop (mkF m 189 #[.val (.int p0), .val (.int p1), .val (.int p2), .val (.int p3), .val (.int p4), .val (.int p5), .val (.int k3), .val (.ref pk), .val (.int (3 : Int32)), .val (.int ix), .val (.ref x26), .val (.ref x29), .val (.ref x32), .val (.ref x35), .val (.ref b144), .unset, .unset, .unset, .unset, .unset] [(.ref b156)])) := c158.trans (st159 _ (Steps.refl _))
        have N159 := Fr.snoc X159 N153 (Nat.le_trans Z0 (Nat.le_trans K153.1 (Nat.le_of_eq g156.symm)))
        have z159 : n0 ≤ h159.size := Nat.le_trans z156 (Keep.of_wr W159).1
        have K159 := K156.wr W159 (Or.inr (Nat.le_trans K153.1 (Nat.le_of_eq g156.symm)))
        have r159 : CHr Z EL T35.vm h156 T35.vm h159 := CHr.wr W159 (Safe.arv hZ35.alike V156 (by decide)) R156.1
        have R159 := R156.trans r159
        have c161 : Steps p.tables e below S0 (T159.setTop (mkF m 192 #[.val (.int p0), .val (.int p1), .val (.int p2), .val (.int p3), .val (.int p4), .val (.int p5), .val (.int k3), .val (.ref pk), .val (.int (3 : Int32)), .val (.int ix), .val (.ref x26), .val (.ref x29), .val (.ref x32), .val (.ref x35), .val (.ref b144), .unset, .unset, .unset, .unset, .unset] [(.int p3), (.int (1 : Int32)), (.ref b156), (.ref b156)])) := c160.trans (by
          show Steps p.tables e below (T159.setTop (mkF m 189 #[.val (.int p0), .val (.int p1), .val (.int p2), .val (.int p3), .val (.int p4), .val (.int p5), .val (.int k3), .val (.ref pk), .val (.int (3 : Int32)), .val (.int ix), .val (.ref x26), .val (.ref x29), .val (.ref x32), .val (.ref x35), .val (.ref b144), .unset, .unset, .unset, .unset, .unset] [(.ref b156)])) _
          refine XS.dup X159.here hx rfl (hb hby at_189) rfl rfl ?_
          refine XS.iconst X159.here hx rfl (hb hby at_190) ?_
          refine XS.iloadN X159.here hx rfl (hb hby at_191) rfl ?_
          exact Steps.refl _)
        obtain ⟨cl162, Ar162, q162, S162, Nn162, Ha162, G162⟩ := id V159
        obtain ⟨T162, h162, X162, e162, W162, st162⟩ := stI X159 hx hZ35 e159 Ar162 (j := (1 : Int32)) (inb_of S162 ⟨by decide, by decide⟩) (g := (mkF m 192 #[.val (.int p0), .val (.int p1), .val (.int p2), .val (.int p3), .val (.int p4), .val (.int p5), .val (.int k3), .val (.ref pk), .val (.int (3 : Int32)), .val (.int ix), .val (.ref x26), .val (.ref x29), .val (.ref x32), .val (.ref x35), .val (.ref b144), .unset, .unset, .unset, .unset, .unset] [(.int p3), (.int (1 : Int32)), (.ref b156), (.ref b156)])) rfl rfl (hb hby at_192)
        have V162 : Arv Z h162 b156 k156 .int (4 : Int32) [(.int p2), (.int p3), (.int (0 : Int32)), (.int (0 : Int32))] (.int (0 : Int32)) := Arv.set Ar162 q162 S162 Nn162 Ha162 G162 rfl W162 1 rfl (Nat.le_of_ble_eq_true rfl)
        have c163 : Steps p.tables e below S0 (T162.setTop (mkF m 193 #[.val (.int p0), .val (.int p1), .val (.int p2), .val (.int p3), .val (.int p4), .val (.int p5), .val (.int k3), .val (.ref pk), .val (.int (3 : Int32)), .val (.int ix), .val (.ref x26), .val (.ref x29), .val (.ref x32), .val (.ref x35), .val (.ref b144), .unset, .unset, .unset, .unset, .unset] [(.ref b156)])) := c161.trans (st162 _ (Steps.refl _))
        have N162 := Fr.snoc X162 N159 (Nat.le_trans Z0 (Nat.le_trans K153.1 (Nat.le_of_eq g156.symm)))
        have z162 : n0 ≤ h162.size := Nat.le_trans z159 (Keep.of_wr W162).1
        have K162 := K159.wr W162 (Or.inr (Nat.le_trans K153.1 (Nat.le_of_eq g156.symm)))
        have r162 : CHr Z EL T35.vm h159 T35.vm h162 := CHr.wr W162 (Safe.arv hZ35.alike V159 (by decide)) R159.1
        have R162 := R159.trans r162
        have c164 : Steps p.tables e below S0 (T162.setTop (mkF m 197 #[.val (.int p0), .val (.int p1), .val (.int p2), .val (.int p3), .val (.int p4), .val (.int p5), .val (.int k3), .val (.ref pk), .val (.int (3 : Int32)), .val (.int ix), .val (.ref x26), .val (.ref x29), .val (.ref x32), .val (.ref x35), .val (.ref b144), .unset, .unset, .unset, .unset, .unset] [(.int p4), (.int (2 : Int32)), (.ref b156), (.ref b156)])) := c163.trans (by
          show Steps p.tables e below (T162.setTop (mkF m 193 #[.val (.int p0), .val (.int p1), .val (.int p2), .val (.int p3), .val (.int p4), .val (.int p5), .val (.int k3), .val (.ref pk), .val (.int (3 : Int32)), .val (.int ix), .val (.ref x26), .val (.ref x29), .val (.ref x32), .val (.ref x35), .val (.ref b144), .unset, .unset, .unset, .unset, .unset] [(.ref b156)])) _
          refine XS.dup X162.here hx rfl (hb hby at_193) rfl rfl ?_
          refine XS.iconst X162.here hx rfl (hb hby at_194) ?_
          refine XS.iload X162.here hx rfl (hb hby at_195) rfl ?_
          exact Steps.refl _)
        obtain ⟨cl165, Ar165, q165, S165, Nn165, Ha165, G165⟩ := id V162
        obtain ⟨T165, h165, X165, e165, W165, st165⟩ := stI X162 hx hZ35 e162 Ar165 (j := (2 : Int32)) (inb_of S165 ⟨by decide, by decide⟩) (g := (mkF m 197 #[.val (.int p0), .val (.int p1), .val (.int p2), .val (.int p3), .val (.int p4), .val (.int p5), .val (.int k3), .val (.ref pk), .val (.int (3 : Int32)), .val (.int ix), .val (.ref x26), .val (.ref x29), .val (.ref x32), .val (.ref x35), .val (.ref b144), .unset, .unset, .unset, .unset, .unset] [(.int p4), (.int (2 : Int32)), (.ref b156), (.ref b156)])) rfl rfl (hb hby at_197)
        have V165 : Arv Z h165 b156 k156 .int (4 : Int32) [(.int p2), (.int p3), (.int p4), (.int (0 : Int32))] (.int (0 : Int32)) := Arv.set Ar165 q165 S165 Nn165 Ha165 G165 rfl W165 2 rfl (Nat.le_of_ble_eq_true rfl)
        have c166 : Steps p.tables e below S0 (T165.setTop (mkF m 198 #[.val (.int p0), .val (.int p1), .val (.int p2), .val (.int p3), .val (.int p4), .val (.int p5), .val (.int k3), .val (.ref pk), .val (.int (3 : Int32)), .val (.int ix), .val (.ref x26), .val (.ref x29), .val (.ref x32), .val (.ref x35), .val (.ref b144), .unset, .unset, .unset, .unset, .unset] [(.ref b156)])) := c164.trans (st165 _ (Steps.refl _))
        have N165 := Fr.snoc X165 N162 (Nat.le_trans Z0 (Nat.le_trans K153.1 (Nat.le_of_eq g156.symm)))
        have z165 : n0 ≤ h165.size := Nat.le_trans z162 (Keep.of_wr W165).1
        have K165 := K162.wr W165 (Or.inr (Nat.le_trans K153.1 (Nat.le_of_eq g156.symm)))
        have r165 : CHr Z EL T35.vm h162 T35.vm h165 := CHr.wr W165 (Safe.arv hZ35.alike V162 (by decide)) R162.1
        have R165 := R162.trans r165
        have c167 : Steps p.tables e below S0 (T165.setTop (mkF m 202 #[.val (.int p0), .val (.int p1), .val (.int p2), .val (.int p3), .val (.int p4), .val (.int p5), .val (.int k3), .val (.ref pk), .val (.int (3 : Int32)), .val (.int ix), .val (.ref x26), .val (.ref x29), .val (.ref x32), .val (.ref x35), .val (.ref b144), .unset, .unset, .unset, .unset, .unset] [(.int p5), (.int (3 : Int32)), (.ref b156), (.ref b156)])) := c166.trans (by
          show Steps p.tables e below (T165.setTop (mkF m 198 #[.val (.int p0), .val (.int p1), .val (.int p2), .val (.int p3), .val (.int p4), .val (.int p5), .val (.int k3), .val (.ref pk), .val (.int (3 : Int32)), .val (.int ix), .val (.ref x26), .val (.ref x29), .val (.ref x32), .val (.ref x35), .val (.ref b144), .unset, .unset, .unset, .unset, .unset] [(.ref b156)])) _
          refine XS.dup X165.here hx rfl (hb hby at_198) rfl rfl ?_
          refine XS.iconst X165.here hx rfl (hb hby at_199) ?_
          refine XS.iload X165.here hx rfl (hb hby at_200) rfl ?_
          exact Steps.refl _)
        obtain ⟨cl168, Ar168, q168, S168, Nn168, Ha168, G168⟩ := id V165
        obtain ⟨T168, h168, X168, e168, W168, st168⟩ := stI X165 hx hZ35 e165 Ar168 (j := (3 : Int32)) (inb_of S168 ⟨by decide, by decide⟩) (g := (mkF m 202 #[.val (.int p0), .val (.int p1), .val (.int p2), .val (.int p3), .val (.int p4), .val (.int p5), .val (.int k3), .val (.ref pk), .val (.int (3 : Int32)), .val (.int ix), .val (.ref x26), .val (.ref x29), .val (.ref x32), .val (.ref x35), .val (.ref b144), .unset, .unset, .unset, .unset, .unset] [(.int p5), (.int (3 : Int32)), (.ref b156), (.ref b156)])) rfl rfl (hb hby at_202)
        have V168 : Arv Z h168 b156 k156 .int (4 : Int32) [(.int p2), (.int p3), (.int p4), (.int p5)] (.int (0 : Int32)) := Arv.set Ar168 q168 S168 Nn168 Ha168 G168 rfl W168 3 rfl (Nat.le_of_ble_eq_true rfl)
        have c169 : Steps p.tables e below S0 (T168.setTop (mkF m 203 #[.val (.int p0), .val (.int p1), .val (.int p2), .val (.int p3), .val (.int p4), .val (.int p5), .val (.int k3), .val (.ref pk), .val (.int (3 : Int32)), .val (.int ix), .val (.ref x26), .val (.ref x29), .val (.ref x32), .val (.ref x35), .val (.ref b144), .unset, .unset, .unset, .unset, .unset] [(.ref b156)])) := c167.trans (st168 _ (Steps.refl _))
        have N168 := Fr.snoc X168 N165 (Nat.le_trans Z0 (Nat.le_trans K153.1 (Nat.le_of_eq g156.symm)))
        have z168 : n0 ≤ h168.size := Nat.le_trans z165 (Keep.of_wr W168).1
        have K168 := K165.wr W168 (Or.inr (Nat.le_trans K153.1 (Nat.le_of_eq g156.symm)))
        have r168 : CHr Z EL T35.vm h165 T35.vm h168 := CHr.wr W168 (Safe.arv hZ35.alike V165 (by decide)) R165.1
        have R168 := R165.trans r168
        have c170 : Steps p.tables e below S0 (T168.setTop (mkF m 205 #[.val (.int p0), .val (.int p1), .val (.int p2), .val (.int p3), .val (.int p4), .val (.int p5), .val (.int k3), .val (.ref pk), .val (.int (3 : Int32)), .val (.int ix), .val (.ref x26), .val (.ref x29), .val (.ref x32), .val (.ref x35), .val (.ref b144), .val (.ref b156), .unset, .unset, .unset, .unset] [])) := c169.trans (by
          show Steps p.tables e below (T168.setTop (mkF m 203 #[.val (.int p0), .val (.int p1), .val (.int p2), .val (.int p3), .val (.int p4), .val (.int p5), .val (.int k3), .val (.ref pk), .val (.int (3 : Int32)), .val (.int ix), .val (.ref x26), .val (.ref x29), .val (.ref x32), .val (.ref x35), .val (.ref b144), .unset, .unset, .unset, .unset, .unset] [(.ref b156)])) _
          refine XS.astore X168.here hx rfl (hb hby at_203) rfl rfl (l' := #[.val (.int p0), .val (.int p1), .val (.int p2), .val (.int p3), .val (.int p4), .val (.int p5), .val (.int k3), .val (.ref pk), .val (.int (3 : Int32)), .val (.int ix), .val (.ref x26), .val (.ref x29), .val (.ref x32), .val (.ref x35), .val (.ref b144), .val (.ref b156), .unset, .unset, .unset, .unset]) rfl ?_
          exact Steps.refl _)
        rcases hix3 with ei | ei | ei
        · rw [ei] at c170
          have c171 : Steps p.tables e below S0 (T168.setTop (mkF m 209 #[.val (.int p0), .val (.int p1), .val (.int p2), .val (.int p3), .val (.int p4), .val (.int p5), .val (.int k3), .val (.ref pk), .val (.int (3 : Int32)), .val (.int (0 : Int32)), .val (.ref x26), .val (.ref x29), .val (.ref x32), .val (.ref x35), .val (.ref b144), .val (.ref b156), .unset, .unset, .unset, .unset] [(.int (0 : Int32)), (.ref b156)])) := c170.trans (by
            show Steps p.tables e below (T168.setTop (mkF m 205 #[.val (.int p0), .val (.int p1), .val (.int p2), .val (.int p3), .val (.int p4), .val (.int p5), .val (.int k3), .val (.ref pk), .val (.int (3 : Int32)), .val (.int (0 : Int32)), .val (.ref x26), .val (.ref x29), .val (.ref x32), .val (.ref x35), .val (.ref b144), .val (.ref b156), .unset, .unset, .unset, .unset] [])) _
            refine XS.aload X168.here hx rfl (hb hby at_205) rfl rfl ?_
            refine XS.iload X168.here hx rfl (hb hby at_207) rfl ?_
            exact Steps.refl _)
          obtain ⟨cl172, Ar172, -, S172, -, Ha172, -⟩ := id V168
          have c173 : Steps p.tables e below S0 (T168.setTop (mkF m 212 #[.val (.int p0), .val (.int p1), .val (.int p2), .val (.int p3), .val (.int p4), .val (.int p5), .val (.int k3), .val (.ref pk), .val (.int (3 : Int32)), .val (.int (0 : Int32)), .val (.ref x26), .val (.ref x29), .val (.ref x32), .val (.ref x35), .val (.ref b144), .val (.ref b156), .unset, .unset, .unset, .unset] [(.int (p2 &&& (3 : Int32)))])) := c171.trans (by
            show Steps p.tables e below (T168.setTop (mkF m 209 #[.val (.int p0), .val (.int p1), .val (.int p2), .val (.int p3), .val (.int p4), .val (.int p5), .val (.int k3), .val (.ref pk), .val (.int (3 : Int32)), .val (.int (0 : Int32)), .val (.ref x26), .val (.ref x29), .val (.ref x32), .val (.ref x35), .val (.ref b144), .val (.ref b156), .unset, .unset, .unset, .unset] [(.int (0 : Int32)), (.ref b156)])) _
            refine X168.iaload hx (j := (0 : Int32)) (v := (.int p2)) (by rw [e168]; exact Ar172.1) (State.isArrayOf_alike hZ35.alike Ar172.2.1) Ar172.2.2 (inb_of S172 ⟨by decide, by decide⟩) (Ha172.at (inb_of S172 ⟨by decide, by decide⟩) rfl) (g := (mkF m 209 #[.val (.int p0), .val (.int p1), .val (.int p2), .val (.int p3), .val (.int p4), .val (.int p5), .val (.int k3), .val (.ref pk), .val (.int (3 : Int32)), .val (.int (0 : Int32)), .val (.ref x26), .val (.ref x29), .val (.ref x32), .val (.ref x35), .val (.ref b144), .val (.ref b156), .unset, .unset, .unset, .unset] [(.int (0 : Int32)), (.ref b156)])) rfl rfl (hb hby at_209) _ ?_
            refine XS.iconst X168.here hx rfl (hb hby at_210) ?_
            refine XS.iand X168.here hx rfl (hb hby at_211) rfl ?_
            exact Steps.refl _)
          obtain ⟨he, hhe, c176⟩ : ∃ (he : Int32), he = (if (p2 &&& (3 : Int32)) = (0 : Int32) then (1 : Int32) else (0 : Int32)) ∧ Steps p.tables e below S0 (T168.setTop (mkF m 220 #[.val (.int p0), .val (.int p1), .val (.int p2), .val (.int p3), .val (.int p4), .val (.int p5), .val (.int k3), .val (.ref pk), .val (.int (3 : Int32)), .val (.int (0 : Int32)), .val (.ref x26), .val (.ref x29), .val (.ref x32), .val (.ref x35), .val (.ref b144), .val (.ref b156), .unset, .unset, .unset, .unset] [(.int he)])) := by
            by_cases hq174 : (p2 &&& (3 : Int32)) = (0 : Int32)
            · exact ⟨_, (by rw [if_pos hq174]), c173.trans (by
                show Steps p.tables e below (T168.setTop (mkF m 212 #[.val (.int p0), .val (.int p1), .val (.int p2), .val (.int p3), .val (.int p4), .val (.int p5), .val (.int k3), .val (.ref pk), .val (.int (3 : Int32)), .val (.int (0 : Int32)), .val (.ref x26), .val (.ref x29), .val (.ref x32), .val (.ref x35), .val (.ref b144), .val (.ref b156), .unset, .unset, .unset, .unset] [(.int (p2 &&& (3 : Int32)))])) _
                refine XS.ifNo X168.here hx rfl (hb hby at_212) rfl ((if0 _ _).trans (teq hq174).2) ?_
                refine XS.iconst X168.here hx rfl (hb hby at_215) ?_
                refine XS.goto X168.here hx rfl (pc0 := 216) (pc' := 220) rfl (hb hby at_216) (by decide) (by decide) ?_
                exact Steps.refl _)⟩
            · exact ⟨_, (by rw [if_neg hq174]), c173.trans (by
                show Steps p.tables e below (T168.setTop (mkF m 212 #[.val (.int p0), .val (.int p1), .val (.int p2), .val (.int p3), .val (.int p4), .val (.int p5), .val (.int k3), .val (.ref pk), .val (.int (3 : Int32)), .val (.int (0 : Int32)), .val (.ref x26), .val (.ref x29), .val (.ref x32), .val (.ref x35), .val (.ref b144), .val (.ref b156), .unset, .unset, .unset, .unset] [(.int (p2 &&& (3 : Int32)))])) _
                refine XS.ifYes X168.here hx rfl (pc0 := 212) (pc' := 219) rfl (hb hby at_212) rfl ((if0 _ _).trans (feq hq174).2) (by decide) (by decide) ?_
                refine XS.iconst X168.here hx rfl (hb hby at_219) ?_
                exact Steps.refl _)⟩
          have c177 : Steps p.tables e below S0 (T168.setTop (mkF m 231 #[.val (.int p0), .val (.int p1), .val (.int p2), .val (.int p3), .val (.int p4), .val (.int p5), .val (.int k3), .val (.ref pk), .val (.int (3 : Int32)), .val (.int (0 : Int32)), .val (.ref x26), .val (.ref x29), .val (.ref x32), .val (.ref x35), .val (.ref b144), .val (.ref b156), .val (.int he), .val (.int (3 : Int32)), .unset, .unset] [(.int k3)])) := c176.trans (by
            show Steps p.tables e below (T168.setTop (mkF m 220 #[.val (.int p0), .val (.int p1), .val (.int p2), .val (.int p3), .val (.int p4), .val (.int p5), .val (.int k3), .val (.ref pk), .val (.int (3 : Int32)), .val (.int (0 : Int32)), .val (.ref x26), .val (.ref x29), .val (.ref x32), .val (.ref x35), .val (.ref b144), .val (.ref b156), .unset, .unset, .unset, .unset] [(.int he)])) _
            refine XS.istore X168.here hx rfl (hb hby at_220) rfl (l' := #[.val (.int p0), .val (.int p1), .val (.int p2), .val (.int p3), .val (.int p4), .val (.int p5), .val (.int k3), .val (.ref pk), .val (.int (3 : Int32)), .val (.int (0 : Int32)), .val (.ref x26), .val (.ref x29), .val (.ref x32), .val (.ref x35), .val (.ref b144), .val (.ref b156), .val (.int he), .unset, .unset, .unset]) rfl ?_
            refine XS.iload X168.here hx rfl (hb hby at_222) rfl ?_
            refine XS.iload X168.here hx rfl (hb hby at_224) rfl ?_
            refine XS.isub X168.here hx rfl (hb hby at_226) rfl ?_
            show Steps p.tables e below (T168.setTop (mkF m 227 #[.val (.int p0), .val (.int p1), .val (.int p2), .val (.int p3), .val (.int p4), .val (.int p5), .val (.int k3), .val (.ref pk), .val (.int (3 : Int32)), .val (.int (0 : Int32)), .val (.ref x26), .val (.ref x29), .val (.ref x32), .val (.ref x35), .val (.ref b144), .val (.ref b156), .val (.int he), .unset, .unset, .unset] [(.int (3 : Int32))])) _
            refine XS.istore X168.here hx rfl (hb hby at_227) rfl (l' := #[.val (.int p0), .val (.int p1), .val (.int p2), .val (.int p3), .val (.int p4), .val (.int p5), .val (.int k3), .val (.ref pk), .val (.int (3 : Int32)), .val (.int (0 : Int32)), .val (.ref x26), .val (.ref x29), .val (.ref x32), .val (.ref x35), .val (.ref b144), .val (.ref b156), .val (.int he), .val (.int (3 : Int32)), .unset, .unset]) rfl ?_
            refine XS.iload X168.here hx rfl (hb hby at_229) rfl ?_
            exact Steps.refl _)
          obtain ⟨ex, hex, c182⟩ : ∃ (ex : Int32), ex = (if k3 = (0 : Int32) then (if he = (0 : Int32) then (1 : Int32) else (0 : Int32)) else (3 : Int32)) ∧ Steps p.tables e below S0 (T168.setTop (mkF m 281 #[.val (.int p0), .val (.int p1), .val (.int p2), .val (.int p3), .val (.int p4), .val (.int p5), .val (.int k3), .val (.ref pk), .val (.int (3 : Int32)), .val (.int (0 : Int32)), .val (.ref x26), .val (.ref x29), .val (.ref x32), .val (.ref x35), .val (.ref b144), .val (.ref b156), .val (.int he), .val (.int (3 : Int32)), .val (.int ex), .unset] [])) := by
            by_cases hq178 : k3 = (0 : Int32)
            · by_cases hq179 : he = (0 : Int32)
              · exact ⟨_, (by rw [if_pos hq178, if_pos hq179]), c177.trans (by
                  show Steps p.tables e below (T168.setTop (mkF m 231 #[.val (.int p0), .val (.int p1), .val (.int p2), .val (.int p3), .val (.int p4), .val (.int p5), .val (.int k3), .val (.ref pk), .val (.int (3 : Int32)), .val (.int (0 : Int32)), .val (.ref x26), .val (.ref x29), .val (.ref x32), .val (.ref x35), .val (.ref b144), .val (.ref b156), .val (.int he), .val (.int (3 : Int32)), .unset, .unset] [(.int k3)])) _
                  refine XS.ifNo X168.here hx rfl (hb hby at_231) rfl ((if0 _ _).trans (teq hq178).2) ?_
                  refine XS.iload X168.here hx rfl (hb hby at_234) rfl ?_
                  refine XS.ifYes X168.here hx rfl (pc0 := 236) (pc' := 243) rfl (hb hby at_236) rfl ((if0 _ _).trans (teq hq179).1) (by decide) (by decide) ?_
                  refine XS.iconst X168.here hx rfl (hb hby at_243) ?_
                  show Steps p.tables e below (T168.setTop (mkF m 244 #[.val (.int p0), .val (.int p1), .val (.int p2), .val (.int p3), .val (.int p4), .val (.int p5), .val (.int k3), .val (.ref pk), .val (.int (3 : Int32)), .val (.int (0 : Int32)), .val (.ref x26), .val (.ref x29), .val (.ref x32), .val (.ref x35), .val (.ref b144), .val (.ref b156), .val (.int he), .val (.int (3 : Int32)), .unset, .unset] [(.int (1 : Int32))])) _
                  refine XS.istore X168.here hx rfl (hb hby at_244) rfl (l' := #[.val (.int p0), .val (.int p1), .val (.int p2), .val (.int p3), .val (.int p4), .val (.int p5), .val (.int k3), .val (.ref pk), .val (.int (3 : Int32)), .val (.int (0 : Int32)), .val (.ref x26), .val (.ref x29), .val (.ref x32), .val (.ref x35), .val (.ref b144), .val (.ref b156), .val (.int he), .val (.int (3 : Int32)), .val (.int (1 : Int32)), .unset]) rfl ?_
                  refine XS.goto X168.here hx rfl (pc0 := 246) (pc' := 281) rfl (hb hby at_246) (by decide) (by decide) ?_
                  exact Steps.refl _)⟩
              · exact ⟨_, (by rw [if_pos hq178, if_neg hq179]), c177.trans (by
                  show Steps p.tables e below (T168.setTop (mkF m 231 #[.val (.int p0), .val (.int p1), .val (.int p2), .val (.int p3), .val (.int p4), .val (.int p5), .val (.int k3), .val (.ref pk), .val (.int (3 : Int32)), .val (.int (0 : Int32)), .val (.ref x26), .val (.ref x29), .val (.ref x32), .val (.ref x35), .val (.ref b144), .val (.ref b156), .val (.int he), .val (.int (3 : Int32)), .unset, .unset] [(.int k3)])) _
                  refine XS.ifNo X168.here hx rfl (hb hby at_231) rfl ((if0 _ _).trans (teq hq178).2) ?_
                  refine XS.iload X168.here hx rfl (hb hby at_234) rfl ?_
                  refine XS.ifNo X168.here hx rfl (hb hby at_236) rfl ((if0 _ _).trans (feq hq179).1) ?_
                  refine XS.iconst X168.here hx rfl (hb hby at_239) ?_
                  show Steps p.tables e below (T168.setTop (mkF m 240 #[.val (.int p0), .val (.int p1), .val (.int p2), .val (.int p3), .val (.int p4), .val (.int p5), .val (.int k3), .val (.ref pk), .val (.int (3 : Int32)), .val (.int (0 : Int32)), .val (.ref x26), .val (.ref x29), .val (.ref x32), .val (.ref x35), .val (.ref b144), .val (.ref b156), .val (.int he), .val (.int (3 : Int32)), .unset, .unset] [(.int (0 : Int32))])) _
                  refine XS.goto X168.here hx rfl (pc0 := 240) (pc' := 244) rfl (hb hby at_240) (by decide) (by decide) ?_
                  refine XS.istore X168.here hx rfl (hb hby at_244) rfl (l' := #[.val (.int p0), .val (.int p1), .val (.int p2), .val (.int p3), .val (.int p4), .val (.int p5), .val (.int k3), .val (.ref pk), .val (.int (3 : Int32)), .val (.int (0 : Int32)), .val (.ref x26), .val (.ref x29), .val (.ref x32), .val (.ref x35), .val (.ref b144), .val (.ref b156), .val (.int he), .val (.int (3 : Int32)), .val (.int (0 : Int32)), .unset]) rfl ?_
                  refine XS.goto X168.here hx rfl (pc0 := 246) (pc' := 281) rfl (hb hby at_246) (by decide) (by decide) ?_
                  exact Steps.refl _)⟩
            · by_cases hq180 : k3 = (1 : Int32)
              · exact ⟨_, (by rw [if_neg hq178]), c177.trans (by
                  show Steps p.tables e below (T168.setTop (mkF m 231 #[.val (.int p0), .val (.int p1), .val (.int p2), .val (.int p3), .val (.int p4), .val (.int p5), .val (.int k3), .val (.ref pk), .val (.int (3 : Int32)), .val (.int (0 : Int32)), .val (.ref x26), .val (.ref x29), .val (.ref x32), .val (.ref x35), .val (.ref b144), .val (.ref b156), .val (.int he), .val (.int (3 : Int32)), .unset, .unset] [(.int k3)])) _
                  refine XS.ifYes X168.here hx rfl (pc0 := 231) (pc' := 249) rfl (hb hby at_231) rfl ((if0 _ _).trans (feq hq178).2) (by decide) (by decide) ?_
                  refine XS.iload X168.here hx rfl (hb hby at_249) rfl ?_
                  refine XS.iconst X168.here hx rfl (hb hby at_251) ?_
                  refine XS.icmpNo X168.here hx rfl (hb hby at_252) rfl (teq hq180).2 ?_
                  show Steps p.tables e below (T168.setTop (mkF m 255 #[.val (.int p0), .val (.int p1), .val (.int p2), .val (.int p3), .val (.int p4), .val (.int p5), .val (.int k3), .val (.ref pk), .val (.int (3 : Int32)), .val (.int (0 : Int32)), .val (.ref x26), .val (.ref x29), .val (.ref x32), .val (.ref x35), .val (.ref b144), .val (.ref b156), .val (.int he), .val (.int (3 : Int32)), .unset, .unset] [])) _
                  refine XS.iload X168.here hx rfl (hb hby at_255) rfl ?_
                  refine XS.iconst X168.here hx rfl (hb hby at_257) ?_
                  refine XS.icmpYes X168.here hx rfl (pc0 := 258) (pc' := 270) rfl (hb hby at_258) rfl (feq (by decide : ¬ ((3 : Int32) = (1 : Int32)))).2 (by decide) (by decide) ?_
                  refine XS.iload X168.here hx rfl (hb hby at_270) rfl ?_
                  show Steps p.tables e below (T168.setTop (mkF m 272 #[.val (.int p0), .val (.int p1), .val (.int p2), .val (.int p3), .val (.int p4), .val (.int p5), .val (.int k3), .val (.ref pk), .val (.int (3 : Int32)), .val (.int (0 : Int32)), .val (.ref x26), .val (.ref x29), .val (.ref x32), .val (.ref x35), .val (.ref b144), .val (.ref b156), .val (.int he), .val (.int (3 : Int32)), .unset, .unset] [(.int (3 : Int32))])) _
                  refine XS.istore X168.here hx rfl (hb hby at_272) rfl (l' := #[.val (.int p0), .val (.int p1), .val (.int p2), .val (.int p3), .val (.int p4), .val (.int p5), .val (.int k3), .val (.ref pk), .val (.int (3 : Int32)), .val (.int (0 : Int32)), .val (.ref x26), .val (.ref x29), .val (.ref x32), .val (.ref x35), .val (.ref b144), .val (.ref b156), .val (.int he), .val (.int (3 : Int32)), .val (.int (3 : Int32)), .unset]) rfl ?_
                  refine XS.goto X168.here hx rfl (pc0 := 274) (pc' := 281) rfl (hb hby at_274) (by decide) (by decide) ?_
                  exact Steps.refl _)⟩
              · exact ⟨_, (by rw [if_neg hq178]), c177.trans (by
                  show Steps p.tables e below (T168.setTop (mkF m 231 #[.val (.int p0), .val (.int p1), .val (.int p2), .val (.int p3), .val (.int p4), .val (.int p5), .val (.int k3), .val (.ref pk), .val (.int (3 : Int32)), .val (.int (0 : Int32)), .val (.ref x26), .val (.ref x29), .val (.ref x32), .val (.ref x35), .val (.ref b144), .val (.ref b156), .val (.int he), .val (.int (3 : Int32)), .unset, .unset] [(.int k3)])) _
                  refine XS.ifYes X168.here hx rfl (pc0 := 231) (pc' := 249) rfl (hb hby at_231) rfl ((if0 _ _).trans (feq hq178).2) (by decide) (by decide) ?_
                  refine XS.iload X168.here hx rfl (hb hby at_249) rfl ?_
                  refine XS.iconst X168.here hx rfl (hb hby at_251) ?_
                  refine XS.icmpYes X168.here hx rfl (pc0 := 252) (pc' := 277) rfl (hb hby at_252) rfl (feq hq180).2 (by decide) (by decide) ?_
                  show Steps p.tables e below (T168.setTop (mkF m 277 #[.val (.int p0), .val (.int p1), .val (.int p2), .val (.int p3), .val (.int p4), .val (.int p5), .val (.int k3), .val (.ref pk), .val (.int (3 : Int32)), .val (.int (0 : Int32)), .val (.ref x26), .val (.ref x29), .val (.ref x32), .val (.ref x35), .val (.ref b144), .val (.ref b156), .val (.int he), .val (.int (3 : Int32)), .unset, .unset] [])) _
                  refine XS.iload X168.here hx rfl (hb hby at_277) rfl ?_
                  refine XS.istore X168.here hx rfl (hb hby at_279) rfl (l' := #[.val (.int p0), .val (.int p1), .val (.int p2), .val (.int p3), .val (.int p4), .val (.int p5), .val (.int k3), .val (.ref pk), .val (.int (3 : Int32)), .val (.int (0 : Int32)), .val (.ref x26), .val (.ref x29), .val (.ref x32), .val (.ref x35), .val (.ref b144), .val (.ref b156), .val (.int he), .val (.int (3 : Int32)), .val (.int (3 : Int32)), .unset]) rfl ?_
                  exact Steps.refl _)⟩
          have c183 : Steps p.tables e below S0 (T168.setTop (mkF m 287 #[.val (.int p0), .val (.int p1), .val (.int p2), .val (.int p3), .val (.int p4), .val (.int p5), .val (.int k3), .val (.ref pk), .val (.int (3 : Int32)), .val (.int (0 : Int32)), .val (.ref x26), .val (.ref x29), .val (.ref x32), .val (.ref x35), .val (.ref b144), .val (.ref b156), .val (.int he), .val (.int (3 : Int32)), .val (.int ex), .unset] [(.int (0 : Int32)), (.ref b144), (.ref pk)])) := c182.trans (by
            show Steps p.tables e below (T168.setTop (mkF m 281 #[.val (.int p0), .val (.int p1), .val (.int p2), .val (.int p3), .val (.int p4), .val (.int p5), .val (.int k3), .val (.ref pk), .val (.int (3 : Int32)), .val (.int (0 : Int32)), .val (.ref x26), .val (.ref x29), .val (.ref x32), .val (.ref x35), .val (.ref b144), .val (.ref b156), .val (.int he), .val (.int (3 : Int32)), .val (.int ex), .unset] [])) _
            refine XS.aload X168.here hx rfl (hb hby at_281) rfl rfl ?_
            refine XS.aload X168.here hx rfl (hb hby at_283) rfl rfl ?_
            refine XS.iload X168.here hx rfl (hb hby at_285) rfl ?_
            exact Steps.refl _)
          obtain ⟨cq184, kq184, q184a, q184b, q184c⟩ := isOf hZ35 e168 ((((((((((((((xpk.ext X00.2).keep Kq26).keep Kq29).keep Kq32).keep Kq35).ext E144).wr W147).wr W150).wr W153).ext E156).wr W159).wr W162).wr W165).wr W168)
          obtain ⟨_, _, ⟨T184, L184, kk184, nn184⟩, -, X184, ⟨Lc184, hQ184, l184, y184, z184⟩, st184⟩ := X168.virtualBack hx (y := (⟨"com/example/libroute/libroute/pattern/ParameterKind", "span", "([Ljava/lang/String;I)I"⟩ : MethodName)) (z := (⟨"com/example/libroute/libroute/pattern/ParameterKind", "span", "([Ljava/lang/String;I)I"⟩ : MethodName)) hown35 (mvT hZ35 (hw _ (List.mem_of_getElem? (i := 57) rfl))) (mvT hZ35 (hw _ (List.mem_of_getElem? (i := 58) rfl))) (notFace_of_selects (args := #[]) (mvT hZ35 (hw _ (List.mem_of_getElem? (i := 60) rfl)))) (mvT hZ35 (hw _ (List.mem_of_getElem? (i := 60) rfl))) (mvT hZ35 (hw _ (List.mem_of_getElem? (i := 59) rfl))) (by decide) (backOf (W := 0) (rmSp l Z a0 hw [] pk b144 rr te (3 : Int32) (0 : Int32) _ [(.ref x26), (.ref x29), (.ref x32)] x26 t26 kb26 cs26 G1 h168 n0 z168 ((((((((((((((Fp.ext X00.2).keep Kq26 nin0).keep Kq29 nin0).keep Kq32 nin0).keep Kq35 nin0).ext E144).other W147 (Or.inl (Nat.ne_of_lt (Nat.lt_of_lt_of_le (Nat.lt_of_lt_of_le (xpk.ext X00.2).lt (Nat.le_trans (Nat.le_trans (Nat.le_trans Kq26.1 Kq29.1) Kq32.1) Kq35.1)) (Nat.le_of_eq g144.symm))))).other W150 (Or.inl (Nat.ne_of_lt (Nat.lt_of_lt_of_le (Nat.lt_of_lt_of_le (xpk.ext X00.2).lt (Nat.le_trans (Nat.le_trans (Nat.le_trans Kq26.1 Kq29.1) Kq32.1) Kq35.1)) (Nat.le_of_eq g144.symm))))).other W153 (Or.inl (Nat.ne_of_lt (Nat.lt_of_lt_of_le (Nat.lt_of_lt_of_le (xpk.ext X00.2).lt (Nat.le_trans (Nat.le_trans (Nat.le_trans Kq26.1 Kq29.1) Kq32.1) Kq35.1)) (Nat.le_of_eq g144.symm))))).ext E156).other W159 (Or.inl (Nat.ne_of_lt (Nat.lt_of_lt_of_le (Nat.lt_of_lt_of_le (xpk.ext X00.2).lt (Nat.le_trans (Nat.le_trans (Nat.le_trans (Nat.le_trans (Nat.le_trans (Nat.le_trans (Nat.le_trans Kq26.1 Kq29.1) Kq32.1) Kq35.1) E144.1) (Keep.of_wr W147).1) (Keep.of_wr W150).1) (Keep.of_wr W153).1)) (Nat.le_of_eq g156.symm))))).other W162 (Or.inl (Nat.ne_of_lt (Nat.lt_of_lt_of_le (Nat.lt_of_lt_of_le (xpk.ext X00.2).lt (Nat.le_trans (Nat.le_trans (Nat.le_trans (Nat.le_trans (Nat.le_trans (Nat.le_trans (Nat.le_trans Kq26.1 Kq29.1) Kq32.1) Kq35.1) E144.1) (Keep.of_wr W147).1) (Keep.of_wr W150).1) (Keep.of_wr W153).1)) (Nat.le_of_eq g156.symm))))).other W165 (Or.inl (Nat.ne_of_lt (Nat.lt_of_lt_of_le (Nat.lt_of_lt_of_le (xpk.ext X00.2).lt (Nat.le_trans (Nat.le_trans (Nat.le_trans (Nat.le_trans (Nat.le_trans (Nat.le_trans (Nat.le_trans Kq26.1 Kq29.1) Kq32.1) Kq35.1) E144.1) (Keep.of_wr W147).1) (Keep.of_wr W150).1) (Keep.of_wr W153).1)) (Nat.le_of_eq g156.symm))))).other W168 (Or.inl (Nat.ne_of_lt (Nat.lt_of_lt_of_le (Nat.lt_of_lt_of_le (xpk.ext X00.2).lt (Nat.le_trans (Nat.le_trans (Nat.le_trans (Nat.le_trans (Nat.le_trans (Nat.le_trans (Nat.le_trans Kq26.1 Kq29.1) Kq32.1) Kq35.1) E144.1) (Keep.of_wr W147).1) (Keep.of_wr W150).1) (Keep.of_wr W153).1)) (Nat.le_of_eq g156.symm))))) ((((((((((((((Gp.ext X00.2).keep Kq26 nin0).keep Kq29 nin0).keep Kq32 nin0).keep Kq35 nin0).ext E144).other W147 (Or.inl (Nat.ne_of_lt (Nat.lt_of_lt_of_le (Nat.lt_of_lt_of_le (xpk.ext X00.2).lt (Nat.le_trans (Nat.le_trans (Nat.le_trans Kq26.1 Kq29.1) Kq32.1) Kq35.1)) (Nat.le_of_eq g144.symm))))).other W150 (Or.inl (Nat.ne_of_lt (Nat.lt_of_lt_of_le (Nat.lt_of_lt_of_le (xpk.ext X00.2).lt (Nat.le_trans (Nat.le_trans (Nat.le_trans Kq26.1 Kq29.1) Kq32.1) Kq35.1)) (Nat.le_of_eq g144.symm))))).other W153 (Or.inl (Nat.ne_of_lt (Nat.lt_of_lt_of_le (Nat.lt_of_lt_of_le (xpk.ext X00.2).lt (Nat.le_trans (Nat.le_trans (Nat.le_trans Kq26.1 Kq29.1) Kq32.1) Kq35.1)) (Nat.le_of_eq g144.symm))))).ext E156).other W159 (Or.inl (Nat.ne_of_lt (Nat.lt_of_lt_of_le (Nat.lt_of_lt_of_le (xpk.ext X00.2).lt (Nat.le_trans (Nat.le_trans (Nat.le_trans (Nat.le_trans (Nat.le_trans (Nat.le_trans (Nat.le_trans Kq26.1 Kq29.1) Kq32.1) Kq35.1) E144.1) (Keep.of_wr W147).1) (Keep.of_wr W150).1) (Keep.of_wr W153).1)) (Nat.le_of_eq g156.symm))))).other W162 (Or.inl (Nat.ne_of_lt (Nat.lt_of_lt_of_le (Nat.lt_of_lt_of_le (xpk.ext X00.2).lt (Nat.le_trans (Nat.le_trans (Nat.le_trans (Nat.le_trans (Nat.le_trans (Nat.le_trans (Nat.le_trans Kq26.1 Kq29.1) Kq32.1) Kq35.1) E144.1) (Keep.of_wr W147).1) (Keep.of_wr W150).1) (Keep.of_wr W153).1)) (Nat.le_of_eq g156.symm))))).other W165 (Or.inl (Nat.ne_of_lt (Nat.lt_of_lt_of_le (Nat.lt_of_lt_of_le (xpk.ext X00.2).lt (Nat.le_trans (Nat.le_trans (Nat.le_trans (Nat.le_trans (Nat.le_trans (Nat.le_trans (Nat.le_trans Kq26.1 Kq29.1) Kq32.1) Kq35.1) E144.1) (Keep.of_wr W147).1) (Keep.of_wr W150).1) (Keep.of_wr W153).1)) (Nat.le_of_eq g156.symm))))).other W168 (Or.inl (Nat.ne_of_lt (Nat.lt_of_lt_of_le (Nat.lt_of_lt_of_le (xpk.ext X00.2).lt (Nat.le_trans (Nat.le_trans (Nat.le_trans (Nat.le_trans (Nat.le_trans (Nat.le_trans (Nat.le_trans Kq26.1 Kq29.1) Kq32.1) Kq35.1) E144.1) (Keep.of_wr W147).1) (Keep.of_wr W150).1) (Keep.of_wr W153).1)) (Nat.le_of_eq g156.symm))))) (((((V153.ext E156).other W159 (Nat.ne_of_lt (Nat.lt_of_lt_of_le (Nat.lt_of_lt_of_le lt_b144 (Nat.le_trans (Nat.le_trans (Keep.of_wr W147).1 (Keep.of_wr W150).1) (Keep.of_wr W153).1)) (Nat.le_of_eq g156.symm)))).other W162 (Nat.ne_of_lt (Nat.lt_of_lt_of_le (Nat.lt_of_lt_of_le lt_b144 (Nat.le_trans (Nat.le_trans (Keep.of_wr W147).1 (Keep.of_wr W150).1) (Keep.of_wr W153).1)) (Nat.le_of_eq g156.symm)))).other W165 (Nat.ne_of_lt (Nat.lt_of_lt_of_le (Nat.lt_of_lt_of_le lt_b144 (Nat.le_trans (Nat.le_trans (Keep.of_wr W147).1 (Keep.of_wr W150).1) (Keep.of_wr W153).1)) (Nat.le_of_eq g156.symm)))).other W168 (Nat.ne_of_lt (Nat.lt_of_lt_of_le (Nat.lt_of_lt_of_le lt_b144 (Nat.le_trans (Nat.le_trans (Keep.of_wr W147).1 (Keep.of_wr W150).1) (Keep.of_wr W153).1)) (Nat.le_of_eq g156.symm)))) ⟨by decide, by decide⟩ rfl ⟨((((((((((((So26.1.keep Kq29).keep Kq32).keep Kq35).ext E144).wr W147).wr W150).wr W153).ext E156).wr W159).wr W162).wr W165).wr W168), ((((((((((((So26.2.1.keep Kq29 nin0).keep Kq32 nin0).keep Kq35 nin0).ext E144).other W147 (Or.inl (Nat.ne_of_lt (Nat.lt_of_lt_of_le (Nat.lt_of_lt_of_le lt_x26 (Nat.le_trans (Nat.le_trans Kq29.1 Kq32.1) Kq35.1)) (Nat.le_of_eq g144.symm))))).other W150 (Or.inl (Nat.ne_of_lt (Nat.lt_of_lt_of_le (Nat.lt_of_lt_of_le lt_x26 (Nat.le_trans (Nat.le_trans Kq29.1 Kq32.1) Kq35.1)) (Nat.le_of_eq g144.symm))))).other W153 (Or.inl (Nat.ne_of_lt (Nat.lt_of_lt_of_le (Nat.lt_of_lt_of_le lt_x26 (Nat.le_trans (Nat.le_trans Kq29.1 Kq32.1) Kq35.1)) (Nat.le_of_eq g144.symm))))).ext E156).other W159 (Or.inl (Nat.ne_of_lt (Nat.lt_of_lt_of_le (Nat.lt_of_lt_of_le lt_x26 (Nat.le_trans (Nat.le_trans (Nat.le_trans (Nat.le_trans (Nat.le_trans (Nat.le_trans Kq29.1 Kq32.1) Kq35.1) E144.1) (Keep.of_wr W147).1) (Keep.of_wr W150).1) (Keep.of_wr W153).1)) (Nat.le_of_eq g156.symm))))).other W162 (Or.inl (Nat.ne_of_lt (Nat.lt_of_lt_of_le (Nat.lt_of_lt_of_le lt_x26 (Nat.le_trans (Nat.le_trans (Nat.le_trans (Nat.le_trans (Nat.le_trans (Nat.le_trans Kq29.1 Kq32.1) Kq35.1) E144.1) (Keep.of_wr W147).1) (Keep.of_wr W150).1) (Keep.of_wr W153).1)) (Nat.le_of_eq g156.symm))))).other W165 (Or.inl (Nat.ne_of_lt (Nat.lt_of_lt_of_le (Nat.lt_of_lt_of_le lt_x26 (Nat.le_trans (Nat.le_trans (Nat.le_trans (Nat.le_trans (Nat.le_trans (Nat.le_trans Kq29.1 Kq32.1) Kq35.1) E144.1) (Keep.of_wr W147).1) (Keep.of_wr W150).1) (Keep.of_wr W153).1)) (Nat.le_of_eq g156.symm))))).other W168 (Or.inl (Nat.ne_of_lt (Nat.lt_of_lt_of_le (Nat.lt_of_lt_of_le lt_x26 (Nat.le_trans (Nat.le_trans (Nat.le_trans (Nat.le_trans (Nat.le_trans (Nat.le_trans Kq29.1 Kq32.1) Kq35.1) E144.1) (Keep.of_wr W147).1) (Keep.of_wr W150).1) (Keep.of_wr W153).1)) (Nat.le_of_eq g156.symm))))), ((((((((((((So26.2.2.1.keep Kq29 nin0).keep Kq32 nin0).keep Kq35 nin0).ext E144).other W147 (Or.inl (Nat.ne_of_lt (Nat.lt_of_lt_of_le (Nat.lt_of_lt_of_le lt_x26 (Nat.le_trans (Nat.le_trans Kq29.1 Kq32.1) Kq35.1)) (Nat.le_of_eq g144.symm))))).other W150 (Or.inl (Nat.ne_of_lt (Nat.lt_of_lt_of_le (Nat.lt_of_lt_of_le lt_x26 (Nat.le_trans (Nat.le_trans Kq29.1 Kq32.1) Kq35.1)) (Nat.le_of_eq g144.symm))))).other W153 (Or.inl (Nat.ne_of_lt (Nat.lt_of_lt_of_le (Nat.lt_of_lt_of_le lt_x26 (Nat.le_trans (Nat.le_trans Kq29.1 Kq32.1) Kq35.1)) (Nat.le_of_eq g144.symm))))).ext E156).other W159 (Or.inl (Nat.ne_of_lt (Nat.lt_of_lt_of_le (Nat.lt_of_lt_of_le lt_x26 (Nat.le_trans (Nat.le_trans (Nat.le_trans (Nat.le_trans (Nat.le_trans (Nat.le_trans Kq29.1 Kq32.1) Kq35.1) E144.1) (Keep.of_wr W147).1) (Keep.of_wr W150).1) (Keep.of_wr W153).1)) (Nat.le_of_eq g156.symm))))).other W162 (Or.inl (Nat.ne_of_lt (Nat.lt_of_lt_of_le (Nat.lt_of_lt_of_le lt_x26 (Nat.le_trans (Nat.le_trans (Nat.le_trans (Nat.le_trans (Nat.le_trans (Nat.le_trans Kq29.1 Kq32.1) Kq35.1) E144.1) (Keep.of_wr W147).1) (Keep.of_wr W150).1) (Keep.of_wr W153).1)) (Nat.le_of_eq g156.symm))))).other W165 (Or.inl (Nat.ne_of_lt (Nat.lt_of_lt_of_le (Nat.lt_of_lt_of_le lt_x26 (Nat.le_trans (Nat.le_trans (Nat.le_trans (Nat.le_trans (Nat.le_trans (Nat.le_trans Kq29.1 Kq32.1) Kq35.1) E144.1) (Keep.of_wr W147).1) (Keep.of_wr W150).1) (Keep.of_wr W153).1)) (Nat.le_of_eq g156.symm))))).other W168 (Or.inl (Nat.ne_of_lt (Nat.lt_of_lt_of_le (Nat.lt_of_lt_of_le lt_x26 (Nat.le_trans (Nat.le_trans (Nat.le_trans (Nat.le_trans (Nat.le_trans (Nat.le_trans Kq29.1 Kq32.1) Kq35.1) E144.1) (Keep.of_wr W147).1) (Keep.of_wr W150).1) (Keep.of_wr W153).1)) (Nat.le_of_eq g156.symm))))), ((((((((((((So26.2.2.2.1.keep Kq29 nin0).keep Kq32 nin0).keep Kq35 nin0).ext E144).other W147 (Nat.ne_of_lt (Nat.lt_of_lt_of_le (Nat.lt_of_lt_of_le lt_t26 (Nat.le_trans (Nat.le_trans Kq29.1 Kq32.1) Kq35.1)) (Nat.le_of_eq g144.symm)))).other W150 (Nat.ne_of_lt (Nat.lt_of_lt_of_le (Nat.lt_of_lt_of_le lt_t26 (Nat.le_trans (Nat.le_trans Kq29.1 Kq32.1) Kq35.1)) (Nat.le_of_eq g144.symm)))).other W153 (Nat.ne_of_lt (Nat.lt_of_lt_of_le (Nat.lt_of_lt_of_le lt_t26 (Nat.le_trans (Nat.le_trans Kq29.1 Kq32.1) Kq35.1)) (Nat.le_of_eq g144.symm)))).ext E156).other W159 (Nat.ne_of_lt (Nat.lt_of_lt_of_le (Nat.lt_of_lt_of_le lt_t26 (Nat.le_trans (Nat.le_trans (Nat.le_trans (Nat.le_trans (Nat.le_trans (Nat.le_trans Kq29.1 Kq32.1) Kq35.1) E144.1) (Keep.of_wr W147).1) (Keep.of_wr W150).1) (Keep.of_wr W153).1)) (Nat.le_of_eq g156.symm)))).other W162 (Nat.ne_of_lt (Nat.lt_of_lt_of_le (Nat.lt_of_lt_of_le lt_t26 (Nat.le_trans (Nat.le_trans (Nat.le_trans (Nat.le_trans (Nat.le_trans (Nat.le_trans Kq29.1 Kq32.1) Kq35.1) E144.1) (Keep.of_wr W147).1) (Keep.of_wr W150).1) (Keep.of_wr W153).1)) (Nat.le_of_eq g156.symm)))).other W165 (Nat.ne_of_lt (Nat.lt_of_lt_of_le (Nat.lt_of_lt_of_le lt_t26 (Nat.le_trans (Nat.le_trans (Nat.le_trans (Nat.le_trans (Nat.le_trans (Nat.le_trans Kq29.1 Kq32.1) Kq35.1) E144.1) (Keep.of_wr W147).1) (Keep.of_wr W150).1) (Keep.of_wr W153).1)) (Nat.le_of_eq g156.symm)))).other W168 (Nat.ne_of_lt (Nat.lt_of_lt_of_le (Nat.lt_of_lt_of_le lt_t26 (Nat.le_trans (Nat.le_trans (Nat.le_trans (Nat.le_trans (Nat.le_trans (Nat.le_trans Kq29.1 Kq32.1) Kq35.1) E144.1) (Keep.of_wr W147).1) (Keep.of_wr W150).1) (Keep.of_wr W153).1)) (Nat.le_of_eq g156.symm)))), So26.2.2.2.2.1, So26.2.2.2.2.2⟩ O2 P5 (((((((((((((X00.keep Kq26 all0).keep Kq29 all0).keep Kq32 all0).keep Kq35 all0).ext E144).wr W147 (Nat.le_trans Z0 (Nat.le_trans K35.1 (Nat.le_of_eq g144.symm)))).wr W150 (Nat.le_trans Z0 (Nat.le_trans K35.1 (Nat.le_of_eq g144.symm)))).wr W153 (Nat.le_trans Z0 (Nat.le_trans K35.1 (Nat.le_of_eq g144.symm)))).ext E156).wr W159 (Nat.le_trans Z0 (Nat.le_trans K153.1 (Nat.le_of_eq g156.symm)))).wr W162 (Nat.le_trans Z0 (Nat.le_trans K153.1 (Nat.le_of_eq g156.symm)))).wr W165 (Nat.le_trans Z0 (Nat.le_trans K153.1 (Nat.le_of_eq g156.symm)))).wr W168 (Nat.le_trans Z0 (Nat.le_trans K153.1 (Nat.le_of_eq g156.symm))))) hZ35 (hw _ (List.mem_of_getElem? (i := 61) rfl)) (hw _ (List.mem_of_getElem? (i := 2) rfl)) (by decide) (by decide)) q184a q184c (g := (mkF m 287 #[.val (.int p0), .val (.int p1), .val (.int p2), .val (.int p3), .val (.int p4), .val (.int p5), .val (.int k3), .val (.ref pk), .val (.int (3 : Int32)), .val (.int (0 : Int32)), .val (.ref x26), .val (.ref x29), .val (.ref x32), .val (.ref x35), .val (.ref b144), .val (.ref b156), .val (.int he), .val (.int (3 : Int32)), .val (.int ex), .unset] [(.int (0 : Int32)), (.ref b144), (.ref pk)])) rfl (by rw [hml]; rfl) (Steps.refl _) (argsL := [(.ref b144), (.int (0 : Int32))]) (rest := []) (lenOf pd_oaLjavaslangsStringeIcI rfl) rfl (by show 2 * 0 + _ ≤ _; exact Nat.le_of_eq rfl) (hb hby at_287) (fun _ _ => ⟨rfl, e168, (by decide : 26 + 0 ≤ _), (by decide : 55 + 0 ≤ _)⟩)
          dsimp only [Pt.U, Pt.locs, Pt.cells, Pt.slots] at X184 l184 y184 z184 st184 hQ184
          subst l184 y184 z184
          obtain ⟨rfl, Nq184, eq184⟩ := hQ184
          have c185 : Steps p.tables e below S0 (T184.setTop (mkF m 290 #[.val (.int p0), .val (.int p1), .val (.int p2), .val (.int p3), .val (.int p4), .val (.int p5), .val (.int k3), .val (.ref pk), .val (.int (3 : Int32)), .val (.int (0 : Int32)), .val (.ref x26), .val (.ref x29), .val (.ref x32), .val (.ref x35), .val (.ref b144), .val (.ref b156), .val (.int he), .val (.int (3 : Int32)), .val (.int ex), .unset] [(.int (own_span rr te (3 : Int32) (0 : Int32) cs26.length))])) := c183.trans (st184)
          have N184 := Fr.app N168 Nq184
          have c186 : Steps p.tables e below S0 (T184.setTop (mkF m 304 #[.val (.int p0), .val (.int p1), .val (.int p2), .val (.int p3), .val (.int p4), .val (.int p5), .val (.int k3), .val (.ref pk), .val (.int (3 : Int32)), .val (.int (0 : Int32)), .val (.ref x26), .val (.ref x29), .val (.ref x32), .val (.ref x35), .val (.ref b144), .val (.ref b156), .val (.int he), .val (.int (3 : Int32)), .val (.int ex), .val (.int (own_span rr te (3 : Int32) (0 : Int32) cs26.length))] [(.int (1 : Int32))])) := c185.trans (by
            show Steps p.tables e below (T184.setTop (mkF m 290 #[.val (.int p0), .val (.int p1), .val (.int p2), .val (.int p3), .val (.int p4), .val (.int p5), .val (.int k3), .val (.ref pk), .val (.int (3 : Int32)), .val (.int (0 : Int32)), .val (.ref x26), .val (.ref x29), .val (.ref x32), .val (.ref x35), .val (.ref b144), .val (.ref b156), .val (.int he), .val (.int (3 : Int32)), .val (.int ex), .unset] [(.int (own_span rr te (3 : Int32) (0 : Int32) cs26.length))])) _
            refine XS.istore X184.here hx rfl (hb hby at_290) rfl (l' := #[.val (.int p0), .val (.int p1), .val (.int p2), .val (.int p3), .val (.int p4), .val (.int p5), .val (.int k3), .val (.ref pk), .val (.int (3 : Int32)), .val (.int (0 : Int32)), .val (.ref x26), .val (.ref x29), .val (.ref x32), .val (.ref x35), .val (.ref b144), .val (.ref b156), .val (.int he), .val (.int (3 : Int32)), .val (.int ex), .val (.int (own_span rr te (3 : Int32) (0 : Int32) cs26.length))]) rfl ?_
            refine XS.iload X184.here hx rfl (hb hby at_292) rfl ?_
            refine XS.iload X184.here hx rfl (hb hby at_294) rfl ?_
            refine XS.icmpNo X184.here hx rfl (hb hby at_296) rfl (teq (own_ex30 hkk em26 hhe hex)).2 ?_
            show Steps p.tables e below (T184.setTop (mkF m 299 #[.val (.int p0), .val (.int p1), .val (.int p2), .val (.int p3), .val (.int p4), .val (.int p5), .val (.int k3), .val (.ref pk), .val (.int (3 : Int32)), .val (.int (0 : Int32)), .val (.ref x26), .val (.ref x29), .val (.ref x32), .val (.ref x35), .val (.ref b144), .val (.ref b156), .val (.int he), .val (.int (3 : Int32)), .val (.int ex), .val (.int (own_span rr te (3 : Int32) (0 : Int32) cs26.length))] [])) _
            refine XS.iconst X184.here hx rfl (hb hby at_299) ?_
            refine XS.goto X184.here hx rfl (pc0 := 300) (pc' := 304) rfl (hb hby at_300) (by decide) (by decide) ?_
            exact Steps.refl _)
          obtain ⟨fs, hr, hrun, hended, hW⟩ := X184.leaveW hS35 (by rw [eq184]; exact (Nat.le_trans (Nat.le_refl _) (Nat.le_trans (Nat.le_trans (Nat.le_trans (Nat.le_trans (Nat.le_trans (Nat.le_trans (Nat.le_trans (Nat.le_trans E144.1 (Keep.of_wr W147).1) (Keep.of_wr W150).1) (Keep.of_wr W153).1) E156.1) (Keep.of_wr W159).1) (Keep.of_wr W162).1) (Keep.of_wr W165).1) (Keep.of_wr W168).1))) (v := some (.int (1 : Int32))) (fun h => by rw [Bd.returns] at h; cases h)
          refine ⟨_, _, c186.trans (retOut X184 hx Bd.returns rfl (Or.inl ⟨rfl, by simp, _, rfl⟩) (hb hby at_304) hr), hrun, hended, _, _, rfl, ?_, ?_, hW.1, hW.2.1, hW.2.2.1, hW.2.2.2.mono (by decide) (by decide)⟩
          · show Q0 Z  h0 n0 _ T184.heap _
            rw [eq184]
            exact ⟨rfl, N184⟩
          · show CHr Z EL s.vm s.heap T184.vm T184.heap
            rw [hh, eq184]; exact R168.trans (CHv.at X184 hZ35 hEL R168.1)
        · rw [ei] at c170
          have c187 : Steps p.tables e below S0 (T168.setTop (mkF m 209 #[.val (.int p0), .val (.int p1), .val (.int p2), .val (.int p3), .val (.int p4), .val (.int p5), .val (.int k3), .val (.ref pk), .val (.int (3 : Int32)), .val (.int (1 : Int32)), .val (.ref x26), .val (.ref x29), .val (.ref x32), .val (.ref x35), .val (.ref b144), .val (.ref b156), .unset, .unset, .unset, .unset] [(.int (1 : Int32)), (.ref b156)])) := c170.trans (by
            show Steps p.tables e below (T168.setTop (mkF m 205 #[.val (.int p0), .val (.int p1), .val (.int p2), .val (.int p3), .val (.int p4), .val (.int p5), .val (.int k3), .val (.ref pk), .val (.int (3 : Int32)), .val (.int (1 : Int32)), .val (.ref x26), .val (.ref x29), .val (.ref x32), .val (.ref x35), .val (.ref b144), .val (.ref b156), .unset, .unset, .unset, .unset] [])) _
            refine XS.aload X168.here hx rfl (hb hby at_205) rfl rfl ?_
            refine XS.iload X168.here hx rfl (hb hby at_207) rfl ?_
            exact Steps.refl _)
          obtain ⟨cl188, Ar188, -, S188, -, Ha188, -⟩ := id V168
          have c189 : Steps p.tables e below S0 (T168.setTop (mkF m 212 #[.val (.int p0), .val (.int p1), .val (.int p2), .val (.int p3), .val (.int p4), .val (.int p5), .val (.int k3), .val (.ref pk), .val (.int (3 : Int32)), .val (.int (1 : Int32)), .val (.ref x26), .val (.ref x29), .val (.ref x32), .val (.ref x35), .val (.ref b144), .val (.ref b156), .unset, .unset, .unset, .unset] [(.int (p3 &&& (3 : Int32)))])) := c187.trans (by
            show Steps p.tables e below (T168.setTop (mkF m 209 #[.val (.int p0), .val (.int p1), .val (.int p2), .val (.int p3), .val (.int p4), .val (.int p5), .val (.int k3), .val (.ref pk), .val (.int (3 : Int32)), .val (.int (1 : Int32)), .val (.ref x26), .val (.ref x29), .val (.ref x32), .val (.ref x35), .val (.ref b144), .val (.ref b156), .unset, .unset, .unset, .unset] [(.int (1 : Int32)), (.ref b156)])) _
            refine X168.iaload hx (j := (1 : Int32)) (v := (.int p3)) (by rw [e168]; exact Ar188.1) (State.isArrayOf_alike hZ35.alike Ar188.2.1) Ar188.2.2 (inb_of S188 ⟨by decide, by decide⟩) (Ha188.at (inb_of S188 ⟨by decide, by decide⟩) rfl) (g := (mkF m 209 #[.val (.int p0), .val (.int p1), .val (.int p2), .val (.int p3), .val (.int p4), .val (.int p5), .val (.int k3), .val (.ref pk), .val (.int (3 : Int32)), .val (.int (1 : Int32)), .val (.ref x26), .val (.ref x29), .val (.ref x32), .val (.ref x35), .val (.ref b144), .val (.ref b156), .unset, .unset, .unset, .unset] [(.int (1 : Int32)), (.ref b156)])) rfl rfl (hb hby at_209) _ ?_
            refine XS.iconst X168.here hx rfl (hb hby at_210) ?_
            refine XS.iand X168.here hx rfl (hb hby at_211) rfl ?_
            exact Steps.refl _)
          obtain ⟨he, hhe, c192⟩ : ∃ (he : Int32), he = (if (p3 &&& (3 : Int32)) = (0 : Int32) then (1 : Int32) else (0 : Int32)) ∧ Steps p.tables e below S0 (T168.setTop (mkF m 220 #[.val (.int p0), .val (.int p1), .val (.int p2), .val (.int p3), .val (.int p4), .val (.int p5), .val (.int k3), .val (.ref pk), .val (.int (3 : Int32)), .val (.int (1 : Int32)), .val (.ref x26), .val (.ref x29), .val (.ref x32), .val (.ref x35), .val (.ref b144), .val (.ref b156), .unset, .unset, .unset, .unset] [(.int he)])) := by
            by_cases hq190 : (p3 &&& (3 : Int32)) = (0 : Int32)
            · exact ⟨_, (by rw [if_pos hq190]), c189.trans (by
                show Steps p.tables e below (T168.setTop (mkF m 212 #[.val (.int p0), .val (.int p1), .val (.int p2), .val (.int p3), .val (.int p4), .val (.int p5), .val (.int k3), .val (.ref pk), .val (.int (3 : Int32)), .val (.int (1 : Int32)), .val (.ref x26), .val (.ref x29), .val (.ref x32), .val (.ref x35), .val (.ref b144), .val (.ref b156), .unset, .unset, .unset, .unset] [(.int (p3 &&& (3 : Int32)))])) _
                refine XS.ifNo X168.here hx rfl (hb hby at_212) rfl ((if0 _ _).trans (teq hq190).2) ?_
                refine XS.iconst X168.here hx rfl (hb hby at_215) ?_
                refine XS.goto X168.here hx rfl (pc0 := 216) (pc' := 220) rfl (hb hby at_216) (by decide) (by decide) ?_
                exact Steps.refl _)⟩
            · exact ⟨_, (by rw [if_neg hq190]), c189.trans (by
                show Steps p.tables e below (T168.setTop (mkF m 212 #[.val (.int p0), .val (.int p1), .val (.int p2), .val (.int p3), .val (.int p4), .val (.int p5), .val (.int k3), .val (.ref pk), .val (.int (3 : Int32)), .val (.int (1 : Int32)), .val (.ref x26), .val (.ref x29), .val (.ref x32), .val (.ref x35), .val (.ref b144), .val (.ref b156), .unset, .unset, .unset, .unset] [(.int (p3 &&& (3 : Int32)))])) _
                refine XS.ifYes X168.here hx rfl (pc0 := 212) (pc' := 219) rfl (hb hby at_212) rfl ((if0 _ _).trans (feq hq190).2) (by decide) (by decide) ?_
                refine XS.iconst X168.here hx rfl (hb hby at_219) ?_
                exact Steps.refl _)⟩
          have c193 : Steps p.tables e below S0 (T168.setTop (mkF m 231 #[.val (.int p0), .val (.int p1), .val (.int p2), .val (.int p3), .val (.int p4), .val (.int p5), .val (.int k3), .val (.ref pk), .val (.int (3 : Int32)), .val (.int (1 : Int32)), .val (.ref x26), .val (.ref x29), .val (.ref x32), .val (.ref x35), .val (.ref b144), .val (.ref b156), .val (.int he), .val (.int (2 : Int32)), .unset, .unset] [(.int k3)])) := c192.trans (by
            show Steps p.tables e below (T168.setTop (mkF m 220 #[.val (.int p0), .val (.int p1), .val (.int p2), .val (.int p3), .val (.int p4), .val (.int p5), .val (.int k3), .val (.ref pk), .val (.int (3 : Int32)), .val (.int (1 : Int32)), .val (.ref x26), .val (.ref x29), .val (.ref x32), .val (.ref x35), .val (.ref b144), .val (.ref b156), .unset, .unset, .unset, .unset] [(.int he)])) _
            refine XS.istore X168.here hx rfl (hb hby at_220) rfl (l' := #[.val (.int p0), .val (.int p1), .val (.int p2), .val (.int p3), .val (.int p4), .val (.int p5), .val (.int k3), .val (.ref pk), .val (.int (3 : Int32)), .val (.int (1 : Int32)), .val (.ref x26), .val (.ref x29), .val (.ref x32), .val (.ref x35), .val (.ref b144), .val (.ref b156), .val (.int he), .unset, .unset, .unset]) rfl ?_
            refine XS.iload X168.here hx rfl (hb hby at_222) rfl ?_
            refine XS.iload X168.here hx rfl (hb hby at_224) rfl ?_
            refine XS.isub X168.here hx rfl (hb hby at_226) rfl ?_
            show Steps p.tables e below (T168.setTop (mkF m 227 #[.val (.int p0), .val (.int p1), .val (.int p2), .val (.int p3), .val (.int p4), .val (.int p5), .val (.int k3), .val (.ref pk), .val (.int (3 : Int32)), .val (.int (1 : Int32)), .val (.ref x26), .val (.ref x29), .val (.ref x32), .val (.ref x35), .val (.ref b144), .val (.ref b156), .val (.int he), .unset, .unset, .unset] [(.int (2 : Int32))])) _
            refine XS.istore X168.here hx rfl (hb hby at_227) rfl (l' := #[.val (.int p0), .val (.int p1), .val (.int p2), .val (.int p3), .val (.int p4), .val (.int p5), .val (.int k3), .val (.ref pk), .val (.int (3 : Int32)), .val (.int (1 : Int32)), .val (.ref x26), .val (.ref x29), .val (.ref x32), .val (.ref x35), .val (.ref b144), .val (.ref b156), .val (.int he), .val (.int (2 : Int32)), .unset, .unset]) rfl ?_
            refine XS.iload X168.here hx rfl (hb hby at_229) rfl ?_
            exact Steps.refl _)
          obtain ⟨ex, hex, c198⟩ : ∃ (ex : Int32), ex = (if k3 = (0 : Int32) then (if he = (0 : Int32) then (1 : Int32) else (0 : Int32)) else (2 : Int32)) ∧ Steps p.tables e below S0 (T168.setTop (mkF m 281 #[.val (.int p0), .val (.int p1), .val (.int p2), .val (.int p3), .val (.int p4), .val (.int p5), .val (.int k3), .val (.ref pk), .val (.int (3 : Int32)), .val (.int (1 : Int32)), .val (.ref x26), .val (.ref x29), .val (.ref x32), .val (.ref x35), .val (.ref b144), .val (.ref b156), .val (.int he), .val (.int (2 : Int32)), .val (.int ex), .unset] [])) := by
            by_cases hq194 : k3 = (0 : Int32)
            · by_cases hq195 : he = (0 : Int32)
              · exact ⟨_, (by rw [if_pos hq194, if_pos hq195]), c193.trans (by
                  show Steps p.tables e below (T168.setTop (mkF m 231 #[.val (.int p0), .val (.int p1), .val (.int p2), .val (.int p3), .val (.int p4), .val (.int p5), .val (.int k3), .val (.ref pk), .val (.int (3 : Int32)), .val (.int (1 : Int32)), .val (.ref x26), .val (.ref x29), .val (.ref x32), .val (.ref x35), .val (.ref b144), .val (.ref b156), .val (.int he), .val (.int (2 : Int32)), .unset, .unset] [(.int k3)])) _
                  refine XS.ifNo X168.here hx rfl (hb hby at_231) rfl ((if0 _ _).trans (teq hq194).2) ?_
                  refine XS.iload X168.here hx rfl (hb hby at_234) rfl ?_
                  refine XS.ifYes X168.here hx rfl (pc0 := 236) (pc' := 243) rfl (hb hby at_236) rfl ((if0 _ _).trans (teq hq195).1) (by decide) (by decide) ?_
                  refine XS.iconst X168.here hx rfl (hb hby at_243) ?_
                  show Steps p.tables e below (T168.setTop (mkF m 244 #[.val (.int p0), .val (.int p1), .val (.int p2), .val (.int p3), .val (.int p4), .val (.int p5), .val (.int k3), .val (.ref pk), .val (.int (3 : Int32)), .val (.int (1 : Int32)), .val (.ref x26), .val (.ref x29), .val (.ref x32), .val (.ref x35), .val (.ref b144), .val (.ref b156), .val (.int he), .val (.int (2 : Int32)), .unset, .unset] [(.int (1 : Int32))])) _
                  refine XS.istore X168.here hx rfl (hb hby at_244) rfl (l' := #[.val (.int p0), .val (.int p1), .val (.int p2), .val (.int p3), .val (.int p4), .val (.int p5), .val (.int k3), .val (.ref pk), .val (.int (3 : Int32)), .val (.int (1 : Int32)), .val (.ref x26), .val (.ref x29), .val (.ref x32), .val (.ref x35), .val (.ref b144), .val (.ref b156), .val (.int he), .val (.int (2 : Int32)), .val (.int (1 : Int32)), .unset]) rfl ?_
                  refine XS.goto X168.here hx rfl (pc0 := 246) (pc' := 281) rfl (hb hby at_246) (by decide) (by decide) ?_
                  exact Steps.refl _)⟩
              · exact ⟨_, (by rw [if_pos hq194, if_neg hq195]), c193.trans (by
                  show Steps p.tables e below (T168.setTop (mkF m 231 #[.val (.int p0), .val (.int p1), .val (.int p2), .val (.int p3), .val (.int p4), .val (.int p5), .val (.int k3), .val (.ref pk), .val (.int (3 : Int32)), .val (.int (1 : Int32)), .val (.ref x26), .val (.ref x29), .val (.ref x32), .val (.ref x35), .val (.ref b144), .val (.ref b156), .val (.int he), .val (.int (2 : Int32)), .unset, .unset] [(.int k3)])) _
                  refine XS.ifNo X168.here hx rfl (hb hby at_231) rfl ((if0 _ _).trans (teq hq194).2) ?_
                  refine XS.iload X168.here hx rfl (hb hby at_234) rfl ?_
                  refine XS.ifNo X168.here hx rfl (hb hby at_236) rfl ((if0 _ _).trans (feq hq195).1) ?_
                  refine XS.iconst X168.here hx rfl (hb hby at_239) ?_
                  show Steps p.tables e below (T168.setTop (mkF m 240 #[.val (.int p0), .val (.int p1), .val (.int p2), .val (.int p3), .val (.int p4), .val (.int p5), .val (.int k3), .val (.ref pk), .val (.int (3 : Int32)), .val (.int (1 : Int32)), .val (.ref x26), .val (.ref x29), .val (.ref x32), .val (.ref x35), .val (.ref b144), .val (.ref b156), .val (.int he), .val (.int (2 : Int32)), .unset, .unset] [(.int (0 : Int32))])) _
                  refine XS.goto X168.here hx rfl (pc0 := 240) (pc' := 244) rfl (hb hby at_240) (by decide) (by decide) ?_
                  refine XS.istore X168.here hx rfl (hb hby at_244) rfl (l' := #[.val (.int p0), .val (.int p1), .val (.int p2), .val (.int p3), .val (.int p4), .val (.int p5), .val (.int k3), .val (.ref pk), .val (.int (3 : Int32)), .val (.int (1 : Int32)), .val (.ref x26), .val (.ref x29), .val (.ref x32), .val (.ref x35), .val (.ref b144), .val (.ref b156), .val (.int he), .val (.int (2 : Int32)), .val (.int (0 : Int32)), .unset]) rfl ?_
                  refine XS.goto X168.here hx rfl (pc0 := 246) (pc' := 281) rfl (hb hby at_246) (by decide) (by decide) ?_
                  exact Steps.refl _)⟩
            · by_cases hq196 : k3 = (1 : Int32)
              · exact ⟨_, (by rw [if_neg hq194]), c193.trans (by
                  show Steps p.tables e below (T168.setTop (mkF m 231 #[.val (.int p0), .val (.int p1), .val (.int p2), .val (.int p3), .val (.int p4), .val (.int p5), .val (.int k3), .val (.ref pk), .val (.int (3 : Int32)), .val (.int (1 : Int32)), .val (.ref x26), .val (.ref x29), .val (.ref x32), .val (.ref x35), .val (.ref b144), .val (.ref b156), .val (.int he), .val (.int (2 : Int32)), .unset, .unset] [(.int k3)])) _
                  refine XS.ifYes X168.here hx rfl (pc0 := 231) (pc' := 249) rfl (hb hby at_231) rfl ((if0 _ _).trans (feq hq194).2) (by decide) (by decide) ?_
                  refine XS.iload X168.here hx rfl (hb hby at_249) rfl ?_
                  refine XS.iconst X168.here hx rfl (hb hby at_251) ?_
                  refine XS.icmpNo X168.here hx rfl (hb hby at_252) rfl (teq hq196).2 ?_
                  show Steps p.tables e below (T168.setTop (mkF m 255 #[.val (.int p0), .val (.int p1), .val (.int p2), .val (.int p3), .val (.int p4), .val (.int p5), .val (.int k3), .val (.ref pk), .val (.int (3 : Int32)), .val (.int (1 : Int32)), .val (.ref x26), .val (.ref x29), .val (.ref x32), .val (.ref x35), .val (.ref b144), .val (.ref b156), .val (.int he), .val (.int (2 : Int32)), .unset, .unset] [])) _
                  refine XS.iload X168.here hx rfl (hb hby at_255) rfl ?_
                  refine XS.iconst X168.here hx rfl (hb hby at_257) ?_
                  refine XS.icmpYes X168.here hx rfl (pc0 := 258) (pc' := 270) rfl (hb hby at_258) rfl (feq (by decide : ¬ ((2 : Int32) = (1 : Int32)))).2 (by decide) (by decide) ?_
                  refine XS.iload X168.here hx rfl (hb hby at_270) rfl ?_
                  show Steps p.tables e below (T168.setTop (mkF m 272 #[.val (.int p0), .val (.int p1), .val (.int p2), .val (.int p3), .val (.int p4), .val (.int p5), .val (.int k3), .val (.ref pk), .val (.int (3 : Int32)), .val (.int (1 : Int32)), .val (.ref x26), .val (.ref x29), .val (.ref x32), .val (.ref x35), .val (.ref b144), .val (.ref b156), .val (.int he), .val (.int (2 : Int32)), .unset, .unset] [(.int (2 : Int32))])) _
                  refine XS.istore X168.here hx rfl (hb hby at_272) rfl (l' := #[.val (.int p0), .val (.int p1), .val (.int p2), .val (.int p3), .val (.int p4), .val (.int p5), .val (.int k3), .val (.ref pk), .val (.int (3 : Int32)), .val (.int (1 : Int32)), .val (.ref x26), .val (.ref x29), .val (.ref x32), .val (.ref x35), .val (.ref b144), .val (.ref b156), .val (.int he), .val (.int (2 : Int32)), .val (.int (2 : Int32)), .unset]) rfl ?_
                  refine XS.goto X168.here hx rfl (pc0 := 274) (pc' := 281) rfl (hb hby at_274) (by decide) (by decide) ?_
                  exact Steps.refl _)⟩
              · exact ⟨_, (by rw [if_neg hq194]), c193.trans (by
                  show Steps p.tables e below (T168.setTop (mkF m 231 #[.val (.int p0), .val (.int p1), .val (.int p2), .val (.int p3), .val (.int p4), .val (.int p5), .val (.int k3), .val (.ref pk), .val (.int (3 : Int32)), .val (.int (1 : Int32)), .val (.ref x26), .val (.ref x29), .val (.ref x32), .val (.ref x35), .val (.ref b144), .val (.ref b156), .val (.int he), .val (.int (2 : Int32)), .unset, .unset] [(.int k3)])) _
                  refine XS.ifYes X168.here hx rfl (pc0 := 231) (pc' := 249) rfl (hb hby at_231) rfl ((if0 _ _).trans (feq hq194).2) (by decide) (by decide) ?_
                  refine XS.iload X168.here hx rfl (hb hby at_249) rfl ?_
                  refine XS.iconst X168.here hx rfl (hb hby at_251) ?_
                  refine XS.icmpYes X168.here hx rfl (pc0 := 252) (pc' := 277) rfl (hb hby at_252) rfl (feq hq196).2 (by decide) (by decide) ?_
                  show Steps p.tables e below (T168.setTop (mkF m 277 #[.val (.int p0), .val (.int p1), .val (.int p2), .val (.int p3), .val (.int p4), .val (.int p5), .val (.int k3), .val (.ref pk), .val (.int (3 : Int32)), .val (.int (1 : Int32)), .val (.ref x26), .val (.ref x29), .val (.ref x32), .val (.ref x35), .val (.ref b144), .val (.ref b156), .val (.int he), .val (.int (2 : Int32)), .unset, .unset] [])) _
                  refine XS.iload X168.here hx rfl (hb hby at_277) rfl ?_
                  refine XS.istore X168.here hx rfl (hb hby at_279) rfl (l' := #[.val (.int p0), .val (.int p1), .val (.int p2), .val (.int p3), .val (.int p4), .val (.int p5), .val (.int k3), .val (.ref pk), .val (.int (3 : Int32)), .val (.int (1 : Int32)), .val (.ref x26), .val (.ref x29), .val (.ref x32), .val (.ref x35), .val (.ref b144), .val (.ref b156), .val (.int he), .val (.int (2 : Int32)), .val (.int (2 : Int32)), .unset]) rfl ?_
                  exact Steps.refl _)⟩
          have c199 : Steps p.tables e below S0 (T168.setTop (mkF m 287 #[.val (.int p0), .val (.int p1), .val (.int p2), .val (.int p3), .val (.int p4), .val (.int p5), .val (.int k3), .val (.ref pk), .val (.int (3 : Int32)), .val (.int (1 : Int32)), .val (.ref x26), .val (.ref x29), .val (.ref x32), .val (.ref x35), .val (.ref b144), .val (.ref b156), .val (.int he), .val (.int (2 : Int32)), .val (.int ex), .unset] [(.int (1 : Int32)), (.ref b144), (.ref pk)])) := c198.trans (by
            show Steps p.tables e below (T168.setTop (mkF m 281 #[.val (.int p0), .val (.int p1), .val (.int p2), .val (.int p3), .val (.int p4), .val (.int p5), .val (.int k3), .val (.ref pk), .val (.int (3 : Int32)), .val (.int (1 : Int32)), .val (.ref x26), .val (.ref x29), .val (.ref x32), .val (.ref x35), .val (.ref b144), .val (.ref b156), .val (.int he), .val (.int (2 : Int32)), .val (.int ex), .unset] [])) _
            refine XS.aload X168.here hx rfl (hb hby at_281) rfl rfl ?_
            refine XS.aload X168.here hx rfl (hb hby at_283) rfl rfl ?_
            refine XS.iload X168.here hx rfl (hb hby at_285) rfl ?_
            exact Steps.refl _)
          obtain ⟨cq200, kq200, q200a, q200b, q200c⟩ := isOf hZ35 e168 ((((((((((((((xpk.ext X00.2).keep Kq26).keep Kq29).keep Kq32).keep Kq35).ext E144).wr W147).wr W150).wr W153).ext E156).wr W159).wr W162).wr W165).wr W168)
          obtain ⟨_, _, ⟨T200, L200, kk200, nn200⟩, -, X200, ⟨Lc200, hQ200, l200, y200, z200⟩, st200⟩ := X168.virtualBack hx (y := (⟨"com/example/libroute/libroute/pattern/ParameterKind", "span", "([Ljava/lang/String;I)I"⟩ : MethodName)) (z := (⟨"com/example/libroute/libroute/pattern/ParameterKind", "span", "([Ljava/lang/String;I)I"⟩ : MethodName)) hown35 (mvT hZ35 (hw _ (List.mem_of_getElem? (i := 57) rfl))) (mvT hZ35 (hw _ (List.mem_of_getElem? (i := 58) rfl))) (notFace_of_selects (args := #[]) (mvT hZ35 (hw _ (List.mem_of_getElem? (i := 60) rfl)))) (mvT hZ35 (hw _ (List.mem_of_getElem? (i := 60) rfl))) (mvT hZ35 (hw _ (List.mem_of_getElem? (i := 59) rfl))) (by decide) (backOf (W := 0) (rmSp l Z a0 hw [] pk b144 rr te (3 : Int32) (1 : Int32) _ [(.ref x26), (.ref x29), (.ref x32)] x29 t29 kb29 cs29 G1 h168 n0 z168 ((((((((((((((Fp.ext X00.2).keep Kq26 nin0).keep Kq29 nin0).keep Kq32 nin0).keep Kq35 nin0).ext E144).other W147 (Or.inl (Nat.ne_of_lt (Nat.lt_of_lt_of_le (Nat.lt_of_lt_of_le (xpk.ext X00.2).lt (Nat.le_trans (Nat.le_trans (Nat.le_trans Kq26.1 Kq29.1) Kq32.1) Kq35.1)) (Nat.le_of_eq g144.symm))))).other W150 (Or.inl (Nat.ne_of_lt (Nat.lt_of_lt_of_le (Nat.lt_of_lt_of_le (xpk.ext X00.2).lt (Nat.le_trans (Nat.le_trans (Nat.le_trans Kq26.1 Kq29.1) Kq32.1) Kq35.1)) (Nat.le_of_eq g144.symm))))).other W153 (Or.inl (Nat.ne_of_lt (Nat.lt_of_lt_of_le (Nat.lt_of_lt_of_le (xpk.ext X00.2).lt (Nat.le_trans (Nat.le_trans (Nat.le_trans Kq26.1 Kq29.1) Kq32.1) Kq35.1)) (Nat.le_of_eq g144.symm))))).ext E156).other W159 (Or.inl (Nat.ne_of_lt (Nat.lt_of_lt_of_le (Nat.lt_of_lt_of_le (xpk.ext X00.2).lt (Nat.le_trans (Nat.le_trans (Nat.le_trans (Nat.le_trans (Nat.le_trans (Nat.le_trans (Nat.le_trans Kq26.1 Kq29.1) Kq32.1) Kq35.1) E144.1) (Keep.of_wr W147).1) (Keep.of_wr W150).1) (Keep.of_wr W153).1)) (Nat.le_of_eq g156.symm))))).other W162 (Or.inl (Nat.ne_of_lt (Nat.lt_of_lt_of_le (Nat.lt_of_lt_of_le (xpk.ext X00.2).lt (Nat.le_trans (Nat.le_trans (Nat.le_trans (Nat.le_trans (Nat.le_trans (Nat.le_trans (Nat.le_trans Kq26.1 Kq29.1) Kq32.1) Kq35.1) E144.1) (Keep.of_wr W147).1) (Keep.of_wr W150).1) (Keep.of_wr W153).1)) (Nat.le_of_eq g156.symm))))).other W165 (Or.inl (Nat.ne_of_lt (Nat.lt_of_lt_of_le (Nat.lt_of_lt_of_le (xpk.ext X00.2).lt (Nat.le_trans (Nat.le_trans (Nat.le_trans (Nat.le_trans (Nat.le_trans (Nat.le_trans (Nat.le_trans Kq26.1 Kq29.1) Kq32.1) Kq35.1) E144.1) (Keep.of_wr W147).1) (Keep.of_wr W150).1) (Keep.of_wr W153).1)) (Nat.le_of_eq g156.symm))))).other W168 (Or.inl (Nat.ne_of_lt (Nat.lt_of_lt_of_le (Nat.lt_of_lt_of_le (xpk.ext X00.2).lt (Nat.le_trans (Nat.le_trans (Nat.le_trans (Nat.le_trans (Nat.le_trans (Nat.le_trans (Nat.le_trans Kq26.1 Kq29.1) Kq32.1) Kq35.1) E144.1) (Keep.of_wr W147).1) (Keep.of_wr W150).1) (Keep.of_wr W153).1)) (Nat.le_of_eq g156.symm))))) ((((((((((((((Gp.ext X00.2).keep Kq26 nin0).keep Kq29 nin0).keep Kq32 nin0).keep Kq35 nin0).ext E144).other W147 (Or.inl (Nat.ne_of_lt (Nat.lt_of_lt_of_le (Nat.lt_of_lt_of_le (xpk.ext X00.2).lt (Nat.le_trans (Nat.le_trans (Nat.le_trans Kq26.1 Kq29.1) Kq32.1) Kq35.1)) (Nat.le_of_eq g144.symm))))).other W150 (Or.inl (Nat.ne_of_lt (Nat.lt_of_lt_of_le (Nat.lt_of_lt_of_le (xpk.ext X00.2).lt (Nat.le_trans (Nat.le_trans (Nat.le_trans Kq26.1 Kq29.1) Kq32.1) Kq35.1)) (Nat.le_of_eq g144.symm))))).other W153 (Or.inl (Nat.ne_of_lt (Nat.lt_of_lt_of_le (Nat.lt_of_lt_of_le (xpk.ext X00.2).lt (Nat.le_trans (Nat.le_trans (Nat.le_trans Kq26.1 Kq29.1) Kq32.1) Kq35.1)) (Nat.le_of_eq g144.symm))))).ext E156).other W159 (Or.inl (Nat.ne_of_lt (Nat.lt_of_lt_of_le (Nat.lt_of_lt_of_le (xpk.ext X00.2).lt (Nat.le_trans (Nat.le_trans (Nat.le_trans (Nat.le_trans (Nat.le_trans (Nat.le_trans (Nat.le_trans Kq26.1 Kq29.1) Kq32.1) Kq35.1) E144.1) (Keep.of_wr W147).1) (Keep.of_wr W150).1) (Keep.of_wr W153).1)) (Nat.le_of_eq g156.symm))))).other W162 (Or.inl (Nat.ne_of_lt (Nat.lt_of_lt_of_le (Nat.lt_of_lt_of_le (xpk.ext X00.2).lt (Nat.le_trans (Nat.le_trans (Nat.le_trans (Nat.le_trans (Nat.le_trans (Nat.le_trans (Nat.le_trans Kq26.1 Kq29.1) Kq32.1) Kq35.1) E144.1) (Keep.of_wr W147).1) (Keep.of_wr W150).1) (Keep.of_wr W153).1)) (Nat.le_of_eq g156.symm))))).other W165 (Or.inl (Nat.ne_of_lt (Nat.lt_of_lt_of_le (Nat.lt_of_lt_of_le (xpk.ext X00.2).lt (Nat.le_trans (Nat.le_trans (Nat.le_trans (Nat.le_trans (Nat.le_trans (Nat.le_trans (Nat.le_trans Kq26.1 Kq29.1) Kq32.1) Kq35.1) E144.1) (Keep.of_wr W147).1) (Keep.of_wr W150).1) (Keep.of_wr W153).1)) (Nat.le_of_eq g156.symm))))).other W168 (Or.inl (Nat.ne_of_lt (Nat.lt_of_lt_of_le (Nat.lt_of_lt_of_le (xpk.ext X00.2).lt (Nat.le_trans (Nat.le_trans (Nat.le_trans (Nat.le_trans (Nat.le_trans (Nat.le_trans (Nat.le_trans Kq26.1 Kq29.1) Kq32.1) Kq35.1) E144.1) (Keep.of_wr W147).1) (Keep.of_wr W150).1) (Keep.of_wr W153).1)) (Nat.le_of_eq g156.symm))))) (((((V153.ext E156).other W159 (Nat.ne_of_lt (Nat.lt_of_lt_of_le (Nat.lt_of_lt_of_le lt_b144 (Nat.le_trans (Nat.le_trans (Keep.of_wr W147).1 (Keep.of_wr W150).1) (Keep.of_wr W153).1)) (Nat.le_of_eq g156.symm)))).other W162 (Nat.ne_of_lt (Nat.lt_of_lt_of_le (Nat.lt_of_lt_of_le lt_b144 (Nat.le_trans (Nat.le_trans (Keep.of_wr W147).1 (Keep.of_wr W150).1) (Keep.of_wr W153).1)) (Nat.le_of_eq g156.symm)))).other W165 (Nat.ne_of_lt (Nat.lt_of_lt_of_le (Nat.lt_of_lt_of_le lt_b144 (Nat.le_trans (Nat.le_trans (Keep.of_wr W147).1 (Keep.of_wr W150).1) (Keep.of_wr W153).1)) (Nat.le_of_eq g156.symm)))).other W168 (Nat.ne_of_lt (Nat.lt_of_lt_of_le (Nat.lt_of_lt_of_le lt_b144 (Nat.le_trans (Nat.le_trans (Keep.of_wr W147).1 (Keep.of_wr W150).1) (Keep.of_wr W153).1)) (Nat.le_of_eq g156.symm)))) ⟨by decide, by decide⟩ rfl ⟨(((((((((((So29.1.keep Kq32).keep Kq35).ext E144).wr W147).wr W150).wr W153).ext E156).wr W159).wr W162).wr W165).wr W168), (((((((((((So29.2.1.keep Kq32 nin0).keep Kq35 nin0).ext E144).other W147 (Or.inl (Nat.ne_of_lt (Nat.lt_of_lt_of_le (Nat.lt_of_lt_of_le lt_x29 (Nat.le_trans Kq32.1 Kq35.1)) (Nat.le_of_eq g144.symm))))).other W150 (Or.inl (Nat.ne_of_lt (Nat.lt_of_lt_of_le (Nat.lt_of_lt_of_le lt_x29 (Nat.le_trans Kq32.1 Kq35.1)) (Nat.le_of_eq g144.symm))))).other W153 (Or.inl (Nat.ne_of_lt (Nat.lt_of_lt_of_le (Nat.lt_of_lt_of_le lt_x29 (Nat.le_trans Kq32.1 Kq35.1)) (Nat.le_of_eq g144.symm))))).ext E156).other W159 (Or.inl (Nat.ne_of_lt (Nat.lt_of_lt_of_le (Nat.lt_of_lt_of_le lt_x29 (Nat.le_trans (Nat.le_trans (Nat.le_trans (Nat.le_trans (Nat.le_trans Kq32.1 Kq35.1) E144.1) (Keep.of_wr W147).1) (Keep.of_wr W150).1) (Keep.of_wr W153).1)) (Nat.le_of_eq g156.symm))))).other W162 (Or.inl (Nat.ne_of_lt (Nat.lt_of_lt_of_le (Nat.lt_of_lt_of_le lt_x29 (Nat.le_trans (Nat.le_trans (Nat.le_trans (Nat.le_trans (Nat.le_trans Kq32.1 Kq35.1) E144.1) (Keep.of_wr W147).1) (Keep.of_wr W150).1) (Keep.of_wr W153).1)) (Nat.le_of_eq g156.symm))))).other W165 (Or.inl (Nat.ne_of_lt (Nat.lt_of_lt_of_le (Nat.lt_of_lt_of_le lt_x29 (Nat.le_trans (Nat.le_trans (Nat.le_trans (Nat.le_trans (Nat.le_trans Kq32.1 Kq35.1) E144.1) (Keep.of_wr W147).1) (Keep.of_wr W150).1) (Keep.of_wr W153).1)) (Nat.le_of_eq g156.symm))))).other W168 (Or.inl (Nat.ne_of_lt (Nat.lt_of_lt_of_le (Nat.lt_of_lt_of_le lt_x29 (Nat.le_trans (Nat.le_trans (Nat.le_trans (Nat.le_trans (Nat.le_trans Kq32.1 Kq35.1) E144.1) (Keep.of_wr W147).1) (Keep.of_wr W150).1) (Keep.of_wr W153).1)) (Nat.le_of_eq g156.symm))))), (((((((((((So29.2.2.1.keep Kq32 nin0).keep Kq35 nin0).ext E144).other W147 (Or.inl (Nat.ne_of_lt (Nat.lt_of_lt_of_le (Nat.lt_of_lt_of_le lt_x29 (Nat.le_trans Kq32.1 Kq35.1)) (Nat.le_of_eq g144.symm))))).other W150 (Or.inl (Nat.ne_of_lt (Nat.lt_of_lt_of_le (Nat.lt_of_lt_of_le lt_x29 (Nat.le_trans Kq32.1 Kq35.1)) (Nat.le_of_eq g144.symm))))).other W153 (Or.inl (Nat.ne_of_lt (Nat.lt_of_lt_of_le (Nat.lt_of_lt_of_le lt_x29 (Nat.le_trans Kq32.1 Kq35.1)) (Nat.le_of_eq g144.symm))))).ext E156).other W159 (Or.inl (Nat.ne_of_lt (Nat.lt_of_lt_of_le (Nat.lt_of_lt_of_le lt_x29 (Nat.le_trans (Nat.le_trans (Nat.le_trans (Nat.le_trans (Nat.le_trans Kq32.1 Kq35.1) E144.1) (Keep.of_wr W147).1) (Keep.of_wr W150).1) (Keep.of_wr W153).1)) (Nat.le_of_eq g156.symm))))).other W162 (Or.inl (Nat.ne_of_lt (Nat.lt_of_lt_of_le (Nat.lt_of_lt_of_le lt_x29 (Nat.le_trans (Nat.le_trans (Nat.le_trans (Nat.le_trans (Nat.le_trans Kq32.1 Kq35.1) E144.1) (Keep.of_wr W147).1) (Keep.of_wr W150).1) (Keep.of_wr W153).1)) (Nat.le_of_eq g156.symm))))).other W165 (Or.inl (Nat.ne_of_lt (Nat.lt_of_lt_of_le (Nat.lt_of_lt_of_le lt_x29 (Nat.le_trans (Nat.le_trans (Nat.le_trans (Nat.le_trans (Nat.le_trans Kq32.1 Kq35.1) E144.1) (Keep.of_wr W147).1) (Keep.of_wr W150).1) (Keep.of_wr W153).1)) (Nat.le_of_eq g156.symm))))).other W168 (Or.inl (Nat.ne_of_lt (Nat.lt_of_lt_of_le (Nat.lt_of_lt_of_le lt_x29 (Nat.le_trans (Nat.le_trans (Nat.le_trans (Nat.le_trans (Nat.le_trans Kq32.1 Kq35.1) E144.1) (Keep.of_wr W147).1) (Keep.of_wr W150).1) (Keep.of_wr W153).1)) (Nat.le_of_eq g156.symm))))), (((((((((((So29.2.2.2.1.keep Kq32 nin0).keep Kq35 nin0).ext E144).other W147 (Nat.ne_of_lt (Nat.lt_of_lt_of_le (Nat.lt_of_lt_of_le lt_t29 (Nat.le_trans Kq32.1 Kq35.1)) (Nat.le_of_eq g144.symm)))).other W150 (Nat.ne_of_lt (Nat.lt_of_lt_of_le (Nat.lt_of_lt_of_le lt_t29 (Nat.le_trans Kq32.1 Kq35.1)) (Nat.le_of_eq g144.symm)))).other W153 (Nat.ne_of_lt (Nat.lt_of_lt_of_le (Nat.lt_of_lt_of_le lt_t29 (Nat.le_trans Kq32.1 Kq35.1)) (Nat.le_of_eq g144.symm)))).ext E156).other W159 (Nat.ne_of_lt (Nat.lt_of_lt_of_le (Nat.lt_of_lt_of_le lt_t29 (Nat.le_trans (Nat.le_trans (Nat.le_trans (Nat.le_trans (Nat.le_trans Kq32.1 Kq35.1) E144.1) (Keep.of_wr W147).1) (Keep.of_wr W150).1) (Keep.of_wr W153).1)) (Nat.le_of_eq g156.symm)))).other W162 (Nat.ne_of_lt (Nat.lt_of_lt_of_le (Nat.lt_of_lt_of_le lt_t29 (Nat.le_trans (Nat.le_trans (Nat.le_trans (Nat.le_trans (Nat.le_trans Kq32.1 Kq35.1) E144.1) (Keep.of_wr W147).1) (Keep.of_wr W150).1) (Keep.of_wr W153).1)) (Nat.le_of_eq g156.symm)))).other W165 (Nat.ne_of_lt (Nat.lt_of_lt_of_le (Nat.lt_of_lt_of_le lt_t29 (Nat.le_trans (Nat.le_trans (Nat.le_trans (Nat.le_trans (Nat.le_trans Kq32.1 Kq35.1) E144.1) (Keep.of_wr W147).1) (Keep.of_wr W150).1) (Keep.of_wr W153).1)) (Nat.le_of_eq g156.symm)))).other W168 (Nat.ne_of_lt (Nat.lt_of_lt_of_le (Nat.lt_of_lt_of_le lt_t29 (Nat.le_trans (Nat.le_trans (Nat.le_trans (Nat.le_trans (Nat.le_trans Kq32.1 Kq35.1) E144.1) (Keep.of_wr W147).1) (Keep.of_wr W150).1) (Keep.of_wr W153).1)) (Nat.le_of_eq g156.symm)))), So29.2.2.2.2.1, So29.2.2.2.2.2⟩ O2 P5 (((((((((((((X00.keep Kq26 all0).keep Kq29 all0).keep Kq32 all0).keep Kq35 all0).ext E144).wr W147 (Nat.le_trans Z0 (Nat.le_trans K35.1 (Nat.le_of_eq g144.symm)))).wr W150 (Nat.le_trans Z0 (Nat.le_trans K35.1 (Nat.le_of_eq g144.symm)))).wr W153 (Nat.le_trans Z0 (Nat.le_trans K35.1 (Nat.le_of_eq g144.symm)))).ext E156).wr W159 (Nat.le_trans Z0 (Nat.le_trans K153.1 (Nat.le_of_eq g156.symm)))).wr W162 (Nat.le_trans Z0 (Nat.le_trans K153.1 (Nat.le_of_eq g156.symm)))).wr W165 (Nat.le_trans Z0 (Nat.le_trans K153.1 (Nat.le_of_eq g156.symm)))).wr W168 (Nat.le_trans Z0 (Nat.le_trans K153.1 (Nat.le_of_eq g156.symm))))) hZ35 (hw _ (List.mem_of_getElem? (i := 61) rfl)) (hw _ (List.mem_of_getElem? (i := 2) rfl)) (by decide) (by decide)) q200a q200c (g := (mkF m 287 #[.val (.int p0), .val (.int p1), .val (.int p2), .val (.int p3), .val (.int p4), .val (.int p5), .val (.int k3), .val (.ref pk), .val (.int (3 : Int32)), .val (.int (1 : Int32)), .val (.ref x26), .val (.ref x29), .val (.ref x32), .val (.ref x35), .val (.ref b144), .val (.ref b156), .val (.int he), .val (.int (2 : Int32)), .val (.int ex), .unset] [(.int (1 : Int32)), (.ref b144), (.ref pk)])) rfl (by rw [hml]; rfl) (Steps.refl _) (argsL := [(.ref b144), (.int (1 : Int32))]) (rest := []) (lenOf pd_oaLjavaslangsStringeIcI rfl) rfl (by show 2 * 0 + _ ≤ _; exact Nat.le_of_eq rfl) (hb hby at_287) (fun _ _ => ⟨rfl, e168, (by decide : 26 + 0 ≤ _), (by decide : 55 + 0 ≤ _)⟩)
          dsimp only [Pt.U, Pt.locs, Pt.cells, Pt.slots] at X200 l200 y200 z200 st200 hQ200
          subst l200 y200 z200
          obtain ⟨rfl, Nq200, eq200⟩ := hQ200
          have c201 : Steps p.tables e below S0 (T200.setTop (mkF m 290 #[.val (.int p0), .val (.int p1), .val (.int p2), .val (.int p3), .val (.int p4), .val (.int p5), .val (.int k3), .val (.ref pk), .val (.int (3 : Int32)), .val (.int (1 : Int32)), .val (.ref x26), .val (.ref x29), .val (.ref x32), .val (.ref x35), .val (.ref b144), .val (.ref b156), .val (.int he), .val (.int (2 : Int32)), .val (.int ex), .unset] [(.int (own_span rr te (3 : Int32) (1 : Int32) cs29.length))])) := c199.trans (st200)
          have N200 := Fr.app N168 Nq200
          have c202 : Steps p.tables e below S0 (T200.setTop (mkF m 304 #[.val (.int p0), .val (.int p1), .val (.int p2), .val (.int p3), .val (.int p4), .val (.int p5), .val (.int k3), .val (.ref pk), .val (.int (3 : Int32)), .val (.int (1 : Int32)), .val (.ref x26), .val (.ref x29), .val (.ref x32), .val (.ref x35), .val (.ref b144), .val (.ref b156), .val (.int he), .val (.int (2 : Int32)), .val (.int ex), .val (.int (own_span rr te (3 : Int32) (1 : Int32) cs29.length))] [(.int (1 : Int32))])) := c201.trans (by
            show Steps p.tables e below (T200.setTop (mkF m 290 #[.val (.int p0), .val (.int p1), .val (.int p2), .val (.int p3), .val (.int p4), .val (.int p5), .val (.int k3), .val (.ref pk), .val (.int (3 : Int32)), .val (.int (1 : Int32)), .val (.ref x26), .val (.ref x29), .val (.ref x32), .val (.ref x35), .val (.ref b144), .val (.ref b156), .val (.int he), .val (.int (2 : Int32)), .val (.int ex), .unset] [(.int (own_span rr te (3 : Int32) (1 : Int32) cs29.length))])) _
            refine XS.istore X200.here hx rfl (hb hby at_290) rfl (l' := #[.val (.int p0), .val (.int p1), .val (.int p2), .val (.int p3), .val (.int p4), .val (.int p5), .val (.int k3), .val (.ref pk), .val (.int (3 : Int32)), .val (.int (1 : Int32)), .val (.ref x26), .val (.ref x29), .val (.ref x32), .val (.ref x35), .val (.ref b144), .val (.ref b156), .val (.int he), .val (.int (2 : Int32)), .val (.int ex), .val (.int (own_span rr te (3 : Int32) (1 : Int32) cs29.length))]) rfl ?_
            refine XS.iload X200.here hx rfl (hb hby at_292) rfl ?_
            refine XS.iload X200.here hx rfl (hb hby at_294) rfl ?_
            refine XS.icmpNo X200.here hx rfl (hb hby at_296) rfl (teq (own_ex31 hkk em29 hhe hex)).2 ?_
            show Steps p.tables e below (T200.setTop (mkF m 299 #[.val (.int p0), .val (.int p1), .val (.int p2), .val (.int p3), .val (.int p4), .val (.int p5), .val (.int k3), .val (.ref pk), .val (.int (3 : Int32)), .val (.int (1 : Int32)), .val (.ref x26), .val (.ref x29), .val (.ref x32), .val (.ref x35), .val (.ref b144), .val (.ref b156), .val (.int he), .val (.int (2 : Int32)), .val (.int ex), .val (.int (own_span rr te (3 : Int32) (1 : Int32) cs29.length))] [])) _
            refine XS.iconst X200.here hx rfl (hb hby at_299) ?_
            refine XS.goto X200.here hx rfl (pc0 := 300) (pc' := 304) rfl (hb hby at_300) (by decide) (by decide) ?_
            exact Steps.refl _)
          obtain ⟨fs, hr, hrun, hended, hW⟩ := X200.leaveW hS35 (by rw [eq200]; exact (Nat.le_trans (Nat.le_refl _) (Nat.le_trans (Nat.le_trans (Nat.le_trans (Nat.le_trans (Nat.le_trans (Nat.le_trans (Nat.le_trans (Nat.le_trans E144.1 (Keep.of_wr W147).1) (Keep.of_wr W150).1) (Keep.of_wr W153).1) E156.1) (Keep.of_wr W159).1) (Keep.of_wr W162).1) (Keep.of_wr W165).1) (Keep.of_wr W168).1))) (v := some (.int (1 : Int32))) (fun h => by rw [Bd.returns] at h; cases h)
          refine ⟨_, _, c202.trans (retOut X200 hx Bd.returns rfl (Or.inl ⟨rfl, by simp, _, rfl⟩) (hb hby at_304) hr), hrun, hended, _, _, rfl, ?_, ?_, hW.1, hW.2.1, hW.2.2.1, hW.2.2.2.mono (by decide) (by decide)⟩
          · show Q0 Z  h0 n0 _ T200.heap _
            rw [eq200]
            exact ⟨rfl, N200⟩
          · show CHr Z EL s.vm s.heap T200.vm T200.heap
            rw [hh, eq200]; exact R168.trans (CHv.at X200 hZ35 hEL R168.1)
        · rw [ei] at c170
          have c203 : Steps p.tables e below S0 (T168.setTop (mkF m 209 #[.val (.int p0), .val (.int p1), .val (.int p2), .val (.int p3), .val (.int p4), .val (.int p5), .val (.int k3), .val (.ref pk), .val (.int (3 : Int32)), .val (.int (2 : Int32)), .val (.ref x26), .val (.ref x29), .val (.ref x32), .val (.ref x35), .val (.ref b144), .val (.ref b156), .unset, .unset, .unset, .unset] [(.int (2 : Int32)), (.ref b156)])) := c170.trans (by
            show Steps p.tables e below (T168.setTop (mkF m 205 #[.val (.int p0), .val (.int p1), .val (.int p2), .val (.int p3), .val (.int p4), .val (.int p5), .val (.int k3), .val (.ref pk), .val (.int (3 : Int32)), .val (.int (2 : Int32)), .val (.ref x26), .val (.ref x29), .val (.ref x32), .val (.ref x35), .val (.ref b144), .val (.ref b156), .unset, .unset, .unset, .unset] [])) _
            refine XS.aload X168.here hx rfl (hb hby at_205) rfl rfl ?_
            refine XS.iload X168.here hx rfl (hb hby at_207) rfl ?_
            exact Steps.refl _)
          obtain ⟨cl204, Ar204, -, S204, -, Ha204, -⟩ := id V168
          have c205 : Steps p.tables e below S0 (T168.setTop (mkF m 212 #[.val (.int p0), .val (.int p1), .val (.int p2), .val (.int p3), .val (.int p4), .val (.int p5), .val (.int k3), .val (.ref pk), .val (.int (3 : Int32)), .val (.int (2 : Int32)), .val (.ref x26), .val (.ref x29), .val (.ref x32), .val (.ref x35), .val (.ref b144), .val (.ref b156), .unset, .unset, .unset, .unset] [(.int (p4 &&& (3 : Int32)))])) := c203.trans (by
            show Steps p.tables e below (T168.setTop (mkF m 209 #[.val (.int p0), .val (.int p1), .val (.int p2), .val (.int p3), .val (.int p4), .val (.int p5), .val (.int k3), .val (.ref pk), .val (.int (3 : Int32)), .val (.int (2 : Int32)), .val (.ref x26), .val (.ref x29), .val (.ref x32), .val (.ref x35), .val (.ref b144), .val (.ref b156), .unset, .unset, .unset, .unset] [(.int (2 : Int32)), (.ref b156)])) _
            refine X168.iaload hx (j := (2 : Int32)) (v := (.int p4)) (by rw [e168]; exact Ar204.1) (State.isArrayOf_alike hZ35.alike Ar204.2.1) Ar204.2.2 (inb_of S204 ⟨by decide, by decide⟩) (Ha204.at (inb_of S204 ⟨by decide, by decide⟩) rfl) (g := (mkF m 209 #[.val (.int p0), .val (.int p1), .val (.int p2), .val (.int p3), .val (.int p4), .val (.int p5), .val (.int k3), .val (.ref pk), .val (.int (3 : Int32)), .val (.int (2 : Int32)), .val (.ref x26), .val (.ref x29), .val (.ref x32), .val (.ref x35), .val (.ref b144), .val (.ref b156), .unset, .unset, .unset, .unset] [(.int (2 : Int32)), (.ref b156)])) rfl rfl (hb hby at_209) _ ?_
            refine XS.iconst X168.here hx rfl (hb hby at_210) ?_
            refine XS.iand X168.here hx rfl (hb hby at_211) rfl ?_
            exact Steps.refl _)
          obtain ⟨he, hhe, c208⟩ : ∃ (he : Int32), he = (if (p4 &&& (3 : Int32)) = (0 : Int32) then (1 : Int32) else (0 : Int32)) ∧ Steps p.tables e below S0 (T168.setTop (mkF m 220 #[.val (.int p0), .val (.int p1), .val (.int p2), .val (.int p3), .val (.int p4), .val (.int p5), .val (.int k3), .val (.ref pk), .val (.int (3 : Int32)), .val (.int (2 : Int32)), .val (.ref x26), .val (.ref x29), .val (.ref x32), .val (.ref x35), .val (.ref b144), .val (.ref b156), .unset, .unset, .unset, .unset] [(.int he)])) := by
            by_cases hq206 : (p4 &&& (3 : Int32)) = (0 : Int32)
            · exact ⟨_, (by rw [if_pos hq206]), c205.trans (by
                show Steps p.tables e below (T168.setTop (mkF m 212 #[.val (.int p0), .val (.int p1), .val (.int p2), .val (.int p3), .val (.int p4), .val (.int p5), .val (.int k3), .val (.ref pk), .val (.int (3 : Int32)), .val (.int (2 : Int32)), .val (.ref x26), .val (.ref x29), .val (.ref x32), .val (.ref x35), .val (.ref b144), .val (.ref b156), .unset, .unset, .unset, .unset] [(.int (p4 &&& (3 : Int32)))])) _
                refine XS.ifNo X168.here hx rfl (hb hby at_212) rfl ((if0 _ _).trans (teq hq206).2) ?_
                refine XS.iconst X168.here hx rfl (hb hby at_215) ?_
                refine XS.goto X168.here hx rfl (pc0 := 216) (pc' := 220) rfl (hb hby at_216) (by decide) (by decide) ?_
                exact Steps.refl _)⟩
            · exact ⟨_, (by rw [if_neg hq206]), c205.trans (by
                show Steps p.tables e below (T168.setTop (mkF m 212 #[.val (.int p0), .val (.int p1), .val (.int p2), .val (.int p3), .val (.int p4), .val (.int p5), .val (.int k3), .val (.ref pk), .val (.int (3 : Int32)), .val (.int (2 : Int32)), .val (.ref x26), .val (.ref x29), .val (.ref x32), .val (.ref x35), .val (.ref b144), .val (.ref b156), .unset, .unset, .unset, .unset] [(.int (p4 &&& (3 : Int32)))])) _
                refine XS.ifYes X168.here hx rfl (pc0 := 212) (pc' := 219) rfl (hb hby at_212) rfl ((if0 _ _).trans (feq hq206).2) (by decide) (by decide) ?_
                refine XS.iconst X168.here hx rfl (hb hby at_219) ?_
                exact Steps.refl _)⟩
          have c209 : Steps p.tables e below S0 (T168.setTop (mkF m 231 #[.val (.int p0), .val (.int p1), .val (.int p2), .val (.int p3), .val (.int p4), .val (.int p5), .val (.int k3), .val (.ref pk), .val (.int (3 : Int32)), .val (.int (2 : Int32)), .val (.ref x26), .val (.ref x29), .val (.ref x32), .val (.ref x35), .val (.ref b144), .val (.ref b156), .val (.int he), .val (.int (1 : Int32)), .unset, .unset] [(.int k3)])) := c208.trans (by
            show Steps p.tables e below (T168.setTop (mkF m 220 #[.val (.int p0), .val (.int p1), .val (.int p2), .val (.int p3), .val (.int p4), .val (.int p5), .val (.int k3), .val (.ref pk), .val (.int (3 : Int32)), .val (.int (2 : Int32)), .val (.ref x26), .val (.ref x29), .val (.ref x32), .val (.ref x35), .val (.ref b144), .val (.ref b156), .unset, .unset, .unset, .unset] [(.int he)])) _
            refine XS.istore X168.here hx rfl (hb hby at_220) rfl (l' := #[.val (.int p0), .val (.int p1), .val (.int p2), .val (.int p3), .val (.int p4), .val (.int p5), .val (.int k3), .val (.ref pk), .val (.int (3 : Int32)), .val (.int (2 : Int32)), .val (.ref x26), .val (.ref x29), .val (.ref x32), .val (.ref x35), .val (.ref b144), .val (.ref b156), .val (.int he), .unset, .unset, .unset]) rfl ?_
            refine XS.iload X168.here hx rfl (hb hby at_222) rfl ?_
            refine XS.iload X168.here hx rfl (hb hby at_224) rfl ?_
            refine XS.isub X168.here hx rfl (hb hby at_226) rfl ?_
            show Steps p.tables e below (T168.setTop (mkF m 227 #[.val (.int p0), .val (.int p1), .val (.int p2), .val (.int p3), .val (.int p4), .val (.int p5), .val (.int k3), .val (.ref pk), .val (.int (3 : Int32)), .val (.int (2 : Int32)), .val (.ref x26), .val (.ref x29), .val (.ref x32), .val (.ref x35), .val (.ref b144), .val (.ref b156), .val (.int he), .unset, .unset, .unset] [(.int (1 : Int32))])) _
            refine XS.istore X168.here hx rfl (hb hby at_227) rfl (l' := #[.val (.int p0), .val (.int p1), .val (.int p2), .val (.int p3), .val (.int p4), .val (.int p5), .val (.int k3), .val (.ref pk), .val (.int (3 : Int32)), .val (.int (2 : Int32)), .val (.ref x26), .val (.ref x29), .val (.ref x32), .val (.ref x35), .val (.ref b144), .val (.ref b156), .val (.int he), .val (.int (1 : Int32)), .unset, .unset]) rfl ?_
            refine XS.iload X168.here hx rfl (hb hby at_229) rfl ?_
            exact Steps.refl _)
          obtain ⟨ex, hex, c215⟩ : ∃ (ex : Int32), ex = (if k3 = (0 : Int32) then (if he = (0 : Int32) then (1 : Int32) else (0 : Int32)) else (if k3 = (1 : Int32) then (if he = (0 : Int32) then (1 : Int32) else (0 : Int32)) else (1 : Int32))) ∧ Steps p.tables e below S0 (T168.setTop (mkF m 281 #[.val (.int p0), .val (.int p1), .val (.int p2), .val (.int p3), .val (.int p4), .val (.int p5), .val (.int k3), .val (.ref pk), .val (.int (3 : Int32)), .val (.int (2 : Int32)), .val (.ref x26), .val (.ref x29), .val (.ref x32), .val (.ref x35), .val (.ref b144), .val (.ref b156), .val (.int he), .val (.int (1 : Int32)), .val (.int ex), .unset] [])) := by
            by_cases hq210 : k3 = (0 : Int32)
            · by_cases hq211 : he = (0 : Int32)
              · exact ⟨_, (by rw [if_pos hq210, if_pos hq211]), c209.trans (by
                  show Steps p.tables e below (T168.setTop (mkF m 231 #[.val (.int p0), .val (.int p1), .val (.int p2), .val (.int p3), .val (.int p4), .val (.int p5), .val (.int k3), .val (.ref pk), .val (.int (3 : Int32)), .val (.int (2 : Int32)), .val (.ref x26), .val (.ref x29), .val (.ref x32), .val (.ref x35), .val (.ref b144), .val (.ref b156), .val (.int he), .val (.int (1 : Int32)), .unset, .unset] [(.int k3)])) _
                  refine XS.ifNo X168.here hx rfl (hb hby at_231) rfl ((if0 _ _).trans (teq hq210).2) ?_
                  refine XS.iload X168.here hx rfl (hb hby at_234) rfl ?_
                  refine XS.ifYes X168.here hx rfl (pc0 := 236) (pc' := 243) rfl (hb hby at_236) rfl ((if0 _ _).trans (teq hq211).1) (by decide) (by decide) ?_
                  refine XS.iconst X168.here hx rfl (hb hby at_243) ?_
                  show Steps p.tables e below (T168.setTop (mkF m 244 #[.val (.int p0), .val (.int p1), .val (.int p2), .val (.int p3), .val (.int p4), .val (.int p5), .val (.int k3), .val (.ref pk), .val (.int (3 : Int32)), .val (.int (2 : Int32)), .val (.ref x26), .val (.ref x29), .val (.ref x32), .val (.ref x35), .val (.ref b144), .val (.ref b156), .val (.int he), .val (.int (1 : Int32)), .unset, .unset] [(.int (1 : Int32))])) _
                  refine XS.istore X168.here hx rfl (hb hby at_244) rfl (l' := #[.val (.int p0), .val (.int p1), .val (.int p2), .val (.int p3), .val (.int p4), .val (.int p5), .val (.int k3), .val (.ref pk), .val (.int (3 : Int32)), .val (.int (2 : Int32)), .val (.ref x26), .val (.ref x29), .val (.ref x32), .val (.ref x35), .val (.ref b144), .val (.ref b156), .val (.int he), .val (.int (1 : Int32)), .val (.int (1 : Int32)), .unset]) rfl ?_
                  refine XS.goto X168.here hx rfl (pc0 := 246) (pc' := 281) rfl (hb hby at_246) (by decide) (by decide) ?_
                  exact Steps.refl _)⟩
              · exact ⟨_, (by rw [if_pos hq210, if_neg hq211]), c209.trans (by
                  show Steps p.tables e below (T168.setTop (mkF m 231 #[.val (.int p0), .val (.int p1), .val (.int p2), .val (.int p3), .val (.int p4), .val (.int p5), .val (.int k3), .val (.ref pk), .val (.int (3 : Int32)), .val (.int (2 : Int32)), .val (.ref x26), .val (.ref x29), .val (.ref x32), .val (.ref x35), .val (.ref b144), .val (.ref b156), .val (.int he), .val (.int (1 : Int32)), .unset, .unset] [(.int k3)])) _
                  refine XS.ifNo X168.here hx rfl (hb hby at_231) rfl ((if0 _ _).trans (teq hq210).2) ?_
                  refine XS.iload X168.here hx rfl (hb hby at_234) rfl ?_
                  refine XS.ifNo X168.here hx rfl (hb hby at_236) rfl ((if0 _ _).trans (feq hq211).1) ?_
                  refine XS.iconst X168.here hx rfl (hb hby at_239) ?_
                  show Steps p.tables e below (T168.setTop (mkF m 240 #[.val (.int p0), .val (.int p1), .val (.int p2), .val (.int p3), .val (.int p4), .val (.int p5), .val (.int k3), .val (.ref pk), .val (.int (3 : Int32)), .val (.int (2 : Int32)), .val (.ref x26), .val (.ref x29), .val (.ref x32), .val (.ref x35), .val (.ref b144), .val (.ref b156), .val (.int he), .val (.int (1 : Int32)), .unset, .unset] [(.int (0 : Int32))])) _
                  refine XS.goto X168.here hx rfl (pc0 := 240) (pc' := 244) rfl (hb hby at_240) (by decide) (by decide) ?_
                  refine XS.istore X168.here hx rfl (hb hby at_244) rfl (l' := #[.val (.int p0), .val (.int p1), .val (.int p2), .val (.int p3), .val (.int p4), .val (.int p5), .val (.int k3), .val (.ref pk), .val (.int (3 : Int32)), .val (.int (2 : Int32)), .val (.ref x26), .val (.ref x29), .val (.ref x32), .val (.ref x35), .val (.ref b144), .val (.ref b156), .val (.int he), .val (.int (1 : Int32)), .val (.int (0 : Int32)), .unset]) rfl ?_
                  refine XS.goto X168.here hx rfl (pc0 := 246) (pc' := 281) rfl (hb hby at_246) (by decide) (by decide) ?_
                  exact Steps.refl _)⟩
            · by_cases hq212 : k3 = (1 : Int32)
              · by_cases hq213 : he = (0 : Int32)
                · exact ⟨_, (by rw [if_neg hq210, if_pos hq212, if_pos hq213]), c209.trans (by
                    show Steps p.tables e below (T168.setTop (mkF m 231 #[.val (.int p0), .val (.int p1), .val (.int p2), .val (.int p3), .val (.int p4), .val (.int p5), .val (.int k3), .val (.ref pk), .val (.int (3 : Int32)), .val (.int (2 : Int32)), .val (.ref x26), .val (.ref x29), .val (.ref x32), .val (.ref x35), .val (.ref b144), .val (.ref b156), .val (.int he), .val (.int (1 : Int32)), .unset, .unset] [(.int k3)])) _
                    refine XS.ifYes X168.here hx rfl (pc0 := 231) (pc' := 249) rfl (hb hby at_231) rfl ((if0 _ _).trans (feq hq210).2) (by decide) (by decide) ?_
                    refine XS.iload X168.here hx rfl (hb hby at_249) rfl ?_
                    refine XS.iconst X168.here hx rfl (hb hby at_251) ?_
                    refine XS.icmpNo X168.here hx rfl (hb hby at_252) rfl (teq hq212).2 ?_
                    show Steps p.tables e below (T168.setTop (mkF m 255 #[.val (.int p0), .val (.int p1), .val (.int p2), .val (.int p3), .val (.int p4), .val (.int p5), .val (.int k3), .val (.ref pk), .val (.int (3 : Int32)), .val (.int (2 : Int32)), .val (.ref x26), .val (.ref x29), .val (.ref x32), .val (.ref x35), .val (.ref b144), .val (.ref b156), .val (.int he), .val (.int (1 : Int32)), .unset, .unset] [])) _
                    refine XS.iload X168.here hx rfl (hb hby at_255) rfl ?_
                    refine XS.iconst X168.here hx rfl (hb hby at_257) ?_
                    refine XS.icmpNo X168.here hx rfl (hb hby at_258) rfl (teq (by decide : ((1 : Int32) = (1 : Int32)))).2 ?_
                    refine XS.iload X168.here hx rfl (hb hby at_261) rfl ?_
                    show Steps p.tables e below (T168.setTop (mkF m 263 #[.val (.int p0), .val (.int p1), .val (.int p2), .val (.int p3), .val (.int p4), .val (.int p5), .val (.int k3), .val (.ref pk), .val (.int (3 : Int32)), .val (.int (2 : Int32)), .val (.ref x26), .val (.ref x29), .val (.ref x32), .val (.ref x35), .val (.ref b144), .val (.ref b156), .val (.int he), .val (.int (1 : Int32)), .unset, .unset] [(.int he)])) _
                    refine XS.ifYes X168.here hx rfl (pc0 := 263) (pc' := 270) rfl (hb hby at_263) rfl ((if0 _ _).trans (teq hq213).1) (by decide) (by decide) ?_
                    refine XS.iload X168.here hx rfl (hb hby at_270) rfl ?_
                    refine XS.istore X168.here hx rfl (hb hby at_272) rfl (l' := #[.val (.int p0), .val (.int p1), .val (.int p2), .val (.int p3), .val (.int p4), .val (.int p5), .val (.int k3), .val (.ref pk), .val (.int (3 : Int32)), .val (.int (2 : Int32)), .val (.ref x26), .val (.ref x29), .val (.ref x32), .val (.ref x35), .val (.ref b144), .val (.ref b156), .val (.int he), .val (.int (1 : Int32)), .val (.int (1 : Int32)), .unset]) rfl ?_
                    refine XS.goto X168.here hx rfl (pc0 := 274) (pc' := 281) rfl (hb hby at_274) (by decide) (by decide) ?_
                    exact Steps.refl _)⟩
                · exact ⟨_, (by rw [if_neg hq210, if_pos hq212, if_neg hq213]), c209.trans (by
                    show Steps p.tables e below (T168.setTop (mkF m 231 #[.val (.int p0), .val (.int p1), .val (.int p2), .val (.int p3), .val (.int p4), .val (.int p5), .val (.int k3), .val (.ref pk), .val (.int (3 : Int32)), .val (.int (2 : Int32)), .val (.ref x26), .val (.ref x29), .val (.ref x32), .val (.ref x35), .val (.ref b144), .val (.ref b156), .val (.int he), .val (.int (1 : Int32)), .unset, .unset] [(.int k3)])) _
                    refine XS.ifYes X168.here hx rfl (pc0 := 231) (pc' := 249) rfl (hb hby at_231) rfl ((if0 _ _).trans (feq hq210).2) (by decide) (by decide) ?_
                    refine XS.iload X168.here hx rfl (hb hby at_249) rfl ?_
                    refine XS.iconst X168.here hx rfl (hb hby at_251) ?_
                    refine XS.icmpNo X168.here hx rfl (hb hby at_252) rfl (teq hq212).2 ?_
                    show Steps p.tables e below (T168.setTop (mkF m 255 #[.val (.int p0), .val (.int p1), .val (.int p2), .val (.int p3), .val (.int p4), .val (.int p5), .val (.int k3), .val (.ref pk), .val (.int (3 : Int32)), .val (.int (2 : Int32)), .val (.ref x26), .val (.ref x29), .val (.ref x32), .val (.ref x35), .val (.ref b144), .val (.ref b156), .val (.int he), .val (.int (1 : Int32)), .unset, .unset] [])) _
                    refine XS.iload X168.here hx rfl (hb hby at_255) rfl ?_
                    refine XS.iconst X168.here hx rfl (hb hby at_257) ?_
                    refine XS.icmpNo X168.here hx rfl (hb hby at_258) rfl (teq (by decide : ((1 : Int32) = (1 : Int32)))).2 ?_
                    refine XS.iload X168.here hx rfl (hb hby at_261) rfl ?_
                    show Steps p.tables e below (T168.setTop (mkF m 263 #[.val (.int p0), .val (.int p1), .val (.int p2), .val (.int p3), .val (.int p4), .val (.int p5), .val (.int k3), .val (.ref pk), .val (.int (3 : Int32)), .val (.int (2 : Int32)), .val (.ref x26), .val (.ref x29), .val (.ref x32), .val (.ref x35), .val (.ref b144), .val (.ref b156), .val (.int he), .val (.int (1 : Int32)), .unset, .unset] [(.int he)])) _
                    refine XS.ifNo X168.here hx rfl (hb hby at_263) rfl ((if0 _ _).trans (feq hq213).1) ?_
                    refine XS.iconst X168.here hx rfl (hb hby at_266) ?_
                    refine XS.goto X168.here hx rfl (pc0 := 267) (pc' := 272) rfl (hb hby at_267) (by decide) (by decide) ?_
                    refine XS.istore X168.here hx rfl (hb hby at_272) rfl (l' := #[.val (.int p0), .val (.int p1), .val (.int p2), .val (.int p3), .val (.int p4), .val (.int p5), .val (.int k3), .val (.ref pk), .val (.int (3 : Int32)), .val (.int (2 : Int32)), .val (.ref x26), .val (.ref x29), .val (.ref x32), .val (.ref x35), .val (.ref b144), .val (.ref b156), .val (.int he), .val (.int (1 : Int32)), .val (.int (0 : Int32)), .unset]) rfl ?_
                    show Steps p.tables e below (T168.setTop (mkF m 274 #[.val (.int p0), .val (.int p1), .val (.int p2), .val (.int p3), .val (.int p4), .val (.int p5), .val (.int k3), .val (.ref pk), .val (.int (3 : Int32)), .val (.int (2 : Int32)), .val (.ref x26), .val (.ref x29), .val (.ref x32), .val (.ref x35), .val (.ref b144), .val (.ref b156), .val (.int he), .val (.int (1 : Int32)), .val (.int (0 : Int32)), .unset] [])) _
                    refine XS.goto X168.here hx rfl (pc0 := 274) (pc' := 281) rfl (hb hby at_274) (by decide) (by decide) ?_
                    exact Steps.refl _)⟩
              · exact ⟨_, (by rw [if_neg hq210, if_neg hq212]), c209.trans (by
                  show Steps p.tables e below (T168.setTop (mkF m 231 #[.val (.int p0), .val (.int p1), .val (.int p2), .val (.int p3), .val (.int p4), .val (.int p5), .val (.int k3), .val (.ref pk), .val (.int (3 : Int32)), .val (.int (2 : Int32)), .val (.ref x26), .val (.ref x29), .val (.ref x32), .val (.ref x35), .val (.ref b144), .val (.ref b156), .val (.int he), .val (.int (1 : Int32)), .unset, .unset] [(.int k3)])) _
                  refine XS.ifYes X168.here hx rfl (pc0 := 231) (pc' := 249) rfl (hb hby at_231) rfl ((if0 _ _).trans (feq hq210).2) (by decide) (by decide) ?_
                  refine XS.iload X168.here hx rfl (hb hby at_249) rfl ?_
                  refine XS.iconst X168.here hx rfl (hb hby at_251) ?_
                  refine XS.icmpYes X168.here hx rfl (pc0 := 252) (pc' := 277) rfl (hb hby at_252) rfl (feq hq212).2 (by decide) (by decide) ?_
                  show Steps p.tables e below (T168.setTop (mkF m 277 #[.val (.int p0), .val (.int p1), .val (.int p2), .val (.int p3), .val (.int p4), .val (.int p5), .val (.int k3), .val (.ref pk), .val (.int (3 : Int32)), .val (.int (2 : Int32)), .val (.ref x26), .val (.ref x29), .val (.ref x32), .val (.ref x35), .val (.ref b144), .val (.ref b156), .val (.int he), .val (.int (1 : Int32)), .unset, .unset] [])) _
                  refine XS.iload X168.here hx rfl (hb hby at_277) rfl ?_
                  refine XS.istore X168.here hx rfl (hb hby at_279) rfl (l' := #[.val (.int p0), .val (.int p1), .val (.int p2), .val (.int p3), .val (.int p4), .val (.int p5), .val (.int k3), .val (.ref pk), .val (.int (3 : Int32)), .val (.int (2 : Int32)), .val (.ref x26), .val (.ref x29), .val (.ref x32), .val (.ref x35), .val (.ref b144), .val (.ref b156), .val (.int he), .val (.int (1 : Int32)), .val (.int (1 : Int32)), .unset]) rfl ?_
                  exact Steps.refl _)⟩
          have c216 : Steps p.tables e below S0 (T168.setTop (mkF m 287 #[.val (.int p0), .val (.int p1), .val (.int p2), .val (.int p3), .val (.int p4), .val (.int p5), .val (.int k3), .val (.ref pk), .val (.int (3 : Int32)), .val (.int (2 : Int32)), .val (.ref x26), .val (.ref x29), .val (.ref x32), .val (.ref x35), .val (.ref b144), .val (.ref b156), .val (.int he), .val (.int (1 : Int32)), .val (.int ex), .unset] [(.int (2 : Int32)), (.ref b144), (.ref pk)])) := c215.trans (by
            show Steps p.tables e below (T168.setTop (mkF m 281 #[.val (.int p0), .val (.int p1), .val (.int p2), .val (.int p3), .val (.int p4), .val (.int p5), .val (.int k3), .val (.ref pk), .val (.int (3 : Int32)), .val (.int (2 : Int32)), .val (.ref x26), .val (.ref x29), .val (.ref x32), .val (.ref x35), .val (.ref b144), .val (.ref b156), .val (.int he), .val (.int (1 : Int32)), .val (.int ex), .unset] [])) _
            refine XS.aload X168.here hx rfl (hb hby at_281) rfl rfl ?_
            refine XS.aload X168.here hx rfl (hb hby at_283) rfl rfl ?_
            refine XS.iload X168.here hx rfl (hb hby at_285) rfl ?_
            exact Steps.refl _)
          obtain ⟨cq217, kq217, q217a, q217b, q217c⟩ := isOf hZ35 e168 ((((((((((((((xpk.ext X00.2).keep Kq26).keep Kq29).keep Kq32).keep Kq35).ext E144).wr W147).wr W150).wr W153).ext E156).wr W159).wr W162).wr W165).wr W168)
          obtain ⟨_, _, ⟨T217, L217, kk217, nn217⟩, -, X217, ⟨Lc217, hQ217, l217, y217, z217⟩, st217⟩ := X168.virtualBack hx (y := (⟨"com/example/libroute/libroute/pattern/ParameterKind", "span", "([Ljava/lang/String;I)I"⟩ : MethodName)) (z := (⟨"com/example/libroute/libroute/pattern/ParameterKind", "span", "([Ljava/lang/String;I)I"⟩ : MethodName)) hown35 (mvT hZ35 (hw _ (List.mem_of_getElem? (i := 57) rfl))) (mvT hZ35 (hw _ (List.mem_of_getElem? (i := 58) rfl))) (notFace_of_selects (args := #[]) (mvT hZ35 (hw _ (List.mem_of_getElem? (i := 60) rfl)))) (mvT hZ35 (hw _ (List.mem_of_getElem? (i := 60) rfl))) (mvT hZ35 (hw _ (List.mem_of_getElem? (i := 59) rfl))) (by decide) (backOf (W := 0) (rmSp l Z a0 hw [] pk b144 rr te (3 : Int32) (2 : Int32) _ [(.ref x26), (.ref x29), (.ref x32)] x32 t32 kb32 cs32 G1 h168 n0 z168 ((((((((((((((Fp.ext X00.2).keep Kq26 nin0).keep Kq29 nin0).keep Kq32 nin0).keep Kq35 nin0).ext E144).other W147 (Or.inl (Nat.ne_of_lt (Nat.lt_of_lt_of_le (Nat.lt_of_lt_of_le (xpk.ext X00.2).lt (Nat.le_trans (Nat.le_trans (Nat.le_trans Kq26.1 Kq29.1) Kq32.1) Kq35.1)) (Nat.le_of_eq g144.symm))))).other W150 (Or.inl (Nat.ne_of_lt (Nat.lt_of_lt_of_le (Nat.lt_of_lt_of_le (xpk.ext X00.2).lt (Nat.le_trans (Nat.le_trans (Nat.le_trans Kq26.1 Kq29.1) Kq32.1) Kq35.1)) (Nat.le_of_eq g144.symm))))).other W153 (Or.inl (Nat.ne_of_lt (Nat.lt_of_lt_of_le (Nat.lt_of_lt_of_le (xpk.ext X00.2).lt (Nat.le_trans (Nat.le_trans (Nat.le_trans Kq26.1 Kq29.1) Kq32.1) Kq35.1)) (Nat.le_of_eq g144.symm))))).ext E156).other W159 (Or.inl (Nat.ne_of_lt (Nat.lt_of_lt_of_le (Nat.lt_of_lt_of_le (xpk.ext X00.2).lt (Nat.le_trans (Nat.le_trans (Nat.le_trans (Nat.le_trans (Nat.le_trans (Nat.le_trans (Nat.le_trans Kq26.1 Kq29.1) Kq32.1) Kq35.1) E144.1) (Keep.of_wr W147).1) (Keep.of_wr W150).1) (Keep.of_wr W153).1)) (Nat.le_of_eq g156.symm))))).other W162 (Or.inl (Nat.ne_of_lt (Nat.lt_of_lt_of_le (Nat.lt_of_lt_of_le (xpk.ext X00.2).lt (Nat.le_trans (Nat.le_trans (Nat.le_trans (Nat.le_trans (Nat.le_trans (Nat.le_trans (Nat.le_trans Kq26.1 Kq29.1) Kq32.1) Kq35.1) E144.1) (Keep.of_wr W147).1) (Keep.of_wr W150).1) (Keep.of_wr W153).1)) (Nat.le_of_eq g156.symm))))).other W165 (Or.inl (Nat.ne_of_lt (Nat.lt_of_lt_of_le (Nat.lt_of_lt_of_le (xpk.ext X00.2).lt (Nat.le_trans (Nat.le_trans (Nat.le_trans (Nat.le_trans (Nat.le_trans (Nat.le_trans (Nat.le_trans Kq26.1 Kq29.1) Kq32.1) Kq35.1) E144.1) (Keep.of_wr W147).1) (Keep.of_wr W150).1) (Keep.of_wr W153).1)) (Nat.le_of_eq g156.symm))))).other W168 (Or.inl (Nat.ne_of_lt (Nat.lt_of_lt_of_le (Nat.lt_of_lt_of_le (xpk.ext X00.2).lt (Nat.le_trans (Nat.le_trans (Nat.le_trans (Nat.le_trans (Nat.le_trans (Nat.le_trans (Nat.le_trans Kq26.1 Kq29.1) Kq32.1) Kq35.1) E144.1) (Keep.of_wr W147).1) (Keep.of_wr W150).1) (Keep.of_wr W153).1)) (Nat.le_of_eq g156.symm))))) ((((((((((((((Gp.ext X00.2).keep Kq26 nin0).keep Kq29 nin0).keep Kq32 nin0).keep Kq35 nin0).ext E144).other W147 (Or.inl (Nat.ne_of_lt (Nat.lt_of_lt_of_le (Nat.lt_of_lt_of_le (xpk.ext X00.2).lt (Nat.le_trans (Nat.le_trans (Nat.le_trans Kq26.1 Kq29.1) Kq32.1) Kq35.1)) (Nat.le_of_eq g144.symm))))).other W150 (Or.inl (Nat.ne_of_lt (Nat.lt_of_lt_of_le (Nat.lt_of_lt_of_le (xpk.ext X00.2).lt (Nat.le_trans (Nat.le_trans (Nat.le_trans Kq26.1 Kq29.1) Kq32.1) Kq35.1)) (Nat.le_of_eq g144.symm))))).other W153 (Or.inl (Nat.ne_of_lt (Nat.lt_of_lt_of_le (Nat.lt_of_lt_of_le (xpk.ext X00.2).lt (Nat.le_trans (Nat.le_trans (Nat.le_trans Kq26.1 Kq29.1) Kq32.1) Kq35.1)) (Nat.le_of_eq g144.symm))))).ext E156).other W159 (Or.inl (Nat.ne_of_lt (Nat.lt_of_lt_of_le (Nat.lt_of_lt_of_le (xpk.ext X00.2).lt (Nat.le_trans (Nat.le_trans (Nat.le_trans (Nat.le_trans (Nat.le_trans (Nat.le_trans (Nat.le_trans Kq26.1 Kq29.1) Kq32.1) Kq35.1) E144.1) (Keep.of_wr W147).1) (Keep.of_wr W150).1) (Keep.of_wr W153).1)) (Nat.le_of_eq g156.symm))))).other W162 (Or.inl (Nat.ne_of_lt (Nat.lt_of_lt_of_le (Nat.lt_of_lt_of_le (xpk.ext X00.2).lt (Nat.le_trans (Nat.le_trans (Nat.le_trans (Nat.le_trans (Nat.le_trans (Nat.le_trans (Nat.le_trans Kq26.1 Kq29.1) Kq32.1) Kq35.1) E144.1) (Keep.of_wr W147).1) (Keep.of_wr W150).1) (Keep.of_wr W153).1)) (Nat.le_of_eq g156.symm))))).other W165 (Or.inl (Nat.ne_of_lt (Nat.lt_of_lt_of_le (Nat.lt_of_lt_of_le (xpk.ext X00.2).lt (Nat.le_trans (Nat.le_trans (Nat.le_trans (Nat.le_trans (Nat.le_trans (Nat.le_trans (Nat.le_trans Kq26.1 Kq29.1) Kq32.1) Kq35.1) E144.1) (Keep.of_wr W147).1) (Keep.of_wr W150).1) (Keep.of_wr W153).1)) (Nat.le_of_eq g156.symm))))).other W168 (Or.inl (Nat.ne_of_lt (Nat.lt_of_lt_of_le (Nat.lt_of_lt_of_le (xpk.ext X00.2).lt (Nat.le_trans (Nat.le_trans (Nat.le_trans (Nat.le_trans (Nat.le_trans (Nat.le_trans (Nat.le_trans Kq26.1 Kq29.1) Kq32.1) Kq35.1) E144.1) (Keep.of_wr W147).1) (Keep.of_wr W150).1) (Keep.of_wr W153).1)) (Nat.le_of_eq g156.symm))))) (((((V153.ext E156).other W159 (Nat.ne_of_lt (Nat.lt_of_lt_of_le (Nat.lt_of_lt_of_le lt_b144 (Nat.le_trans (Nat.le_trans (Keep.of_wr W147).1 (Keep.of_wr W150).1) (Keep.of_wr W153).1)) (Nat.le_of_eq g156.symm)))).other W162 (Nat.ne_of_lt (Nat.lt_of_lt_of_le (Nat.lt_of_lt_of_le lt_b144 (Nat.le_trans (Nat.le_trans (Keep.of_wr W147).1 (Keep.of_wr W150).1) (Keep.of_wr W153).1)) (Nat.le_of_eq g156.symm)))).other W165 (Nat.ne_of_lt (Nat.lt_of_lt_of_le (Nat.lt_of_lt_of_le lt_b144 (Nat.le_trans (Nat.le_trans (Keep.of_wr W147).1 (Keep.of_wr W150).1) (Keep.of_wr W153).1)) (Nat.le_of_eq g156.symm)))).other W168 (Nat.ne_of_lt (Nat.lt_of_lt_of_le (Nat.lt_of_lt_of_le lt_b144 (Nat.le_trans (Nat.le_trans (Keep.of_wr W147).1 (Keep.of_wr W150).1) (Keep.of_wr W153).1)) (Nat.le_of_eq g156.symm)))) ⟨by decide, by decide⟩ rfl ⟨((((((((((So32.1.keep Kq35).ext E144).wr W147).wr W150).wr W153).ext E156).wr W159).wr W162).wr W165).wr W168), ((((((((((So32.2.1.keep Kq35 nin0).ext E144).other W147 (Or.inl (Nat.ne_of_lt (Nat.lt_of_lt_of_le (Nat.lt_of_lt_of_le lt_x32 Kq35.1) (Nat.le_of_eq g144.symm))))).other W150 (Or.inl (Nat.ne_of_lt (Nat.lt_of_lt_of_le (Nat.lt_of_lt_of_le lt_x32 Kq35.1) (Nat.le_of_eq g144.symm))))).other W153 (Or.inl (Nat.ne_of_lt (Nat.lt_of_lt_of_le (Nat.lt_of_lt_of_le lt_x32 Kq35.1) (Nat.le_of_eq g144.symm))))).ext E156).other W159 (Or.inl (Nat.ne_of_lt (Nat.lt_of_lt_of_le (Nat.lt_of_lt_of_le lt_x32 (Nat.le_trans (Nat.le_trans (Nat.le_trans (Nat.le_trans Kq35.1 E144.1) (Keep.of_wr W147).1) (Keep.of_wr W150).1) (Keep.of_wr W153).1)) (Nat.le_of_eq g156.symm))))).other W162 (Or.inl (Nat.ne_of_lt (Nat.lt_of_lt_of_le (Nat.lt_of_lt_of_le lt_x32 (Nat.le_trans (Nat.le_trans (Nat.le_trans (Nat.le_trans Kq35.1 E144.1) (Keep.of_wr W147).1) (Keep.of_wr W150).1) (Keep.of_wr W153).1)) (Nat.le_of_eq g156.symm))))).other W165 (Or.inl (Nat.ne_of_lt (Nat.lt_of_lt_of_le (Nat.lt_of_lt_of_le lt_x32 (Nat.le_trans (Nat.le_trans (Nat.le_trans (Nat.le_trans Kq35.1 E144.1) (Keep.of_wr W147).1) (Keep.of_wr W150).1) (Keep.of_wr W153).1)) (Nat.le_of_eq g156.symm))))).other W168 (Or.inl (Nat.ne_of_lt (Nat.lt_of_lt_of_le (Nat.lt_of_lt_of_le lt_x32 (Nat.le_trans (Nat.le_trans (Nat.le_trans (Nat.le_trans Kq35.1 E144.1) (Keep.of_wr W147).1) (Keep.of_wr W150).1) (Keep.of_wr W153).1)) (Nat.le_of_eq g156.symm))))), ((((((((((So32.2.2.1.keep Kq35 nin0).ext E144).other W147 (Or.inl (Nat.ne_of_lt (Nat.lt_of_lt_of_le (Nat.lt_of_lt_of_le lt_x32 Kq35.1) (Nat.le_of_eq g144.symm))))).other W150 (Or.inl (Nat.ne_of_lt (Nat.lt_of_lt_of_le (Nat.lt_of_lt_of_le lt_x32 Kq35.1) (Nat.le_of_eq g144.symm))))).other W153 (Or.inl (Nat.ne_of_lt (Nat.lt_of_lt_of_le (Nat.lt_of_lt_of_le lt_x32 Kq35.1) (Nat.le_of_eq g144.symm))))).ext E156).other W159 (Or.inl (Nat.ne_of_lt (Nat.lt_of_lt_of_le (Nat.lt_of_lt_of_le lt_x32 (Nat.le_trans (Nat.le_trans (Nat.le_trans (Nat.le_trans Kq35.1 E144.1) (Keep.of_wr W147).1) (Keep.of_wr W150).1) (Keep.of_wr W153).1)) (Nat.le_of_eq g156.symm))))).other W162 (Or.inl (Nat.ne_of_lt (Nat.lt_of_lt_of_le (Nat.lt_of_lt_of_le lt_x32 (Nat.le_trans (Nat.le_trans (Nat.le_trans (Nat.le_trans Kq35.1 E144.1) (Keep.of_wr W147).1) (Keep.of_wr W150).1) (Keep.of_wr W153).1)) (Nat.le_of_eq g156.symm))))).other W165 (Or.inl (Nat.ne_of_lt (Nat.lt_of_lt_of_le (Nat.lt_of_lt_of_le lt_x32 (Nat.le_trans (Nat.le_trans (Nat.le_trans (Nat.le_trans Kq35.1 E144.1) (Keep.of_wr W147).1) (Keep.of_wr W150).1) (Keep.of_wr W153).1)) (Nat.le_of_eq g156.symm))))).other W168 (Or.inl (Nat.ne_of_lt (Nat.lt_of_lt_of_le (Nat.lt_of_lt_of_le lt_x32 (Nat.le_trans (Nat.le_trans (Nat.le_trans (Nat.le_trans Kq35.1 E144.1) (Keep.of_wr W147).1) (Keep.of_wr W150).1) (Keep.of_wr W153).1)) (Nat.le_of_eq g156.symm))))), ((((((((((So32.2.2.2.1.keep Kq35 nin0).ext E144).other W147 (Nat.ne_of_lt (Nat.lt_of_lt_of_le (Nat.lt_of_lt_of_le lt_t32 Kq35.1) (Nat.le_of_eq g144.symm)))).other W150 (Nat.ne_of_lt (Nat.lt_of_lt_of_le (Nat.lt_of_lt_of_le lt_t32 Kq35.1) (Nat.le_of_eq g144.symm)))).other W153 (Nat.ne_of_lt (Nat.lt_of_lt_of_le (Nat.lt_of_lt_of_le lt_t32 Kq35.1) (Nat.le_of_eq g144.symm)))).ext E156).other W159 (Nat.ne_of_lt (Nat.lt_of_lt_of_le (Nat.lt_of_lt_of_le lt_t32 (Nat.le_trans (Nat.le_trans (Nat.le_trans (Nat.le_trans Kq35.1 E144.1) (Keep.of_wr W147).1) (Keep.of_wr W150).1) (Keep.of_wr W153).1)) (Nat.le_of_eq g156.symm)))).other W162 (Nat.ne_of_lt (Nat.lt_of_lt_of_le (Nat.lt_of_lt_of_le lt_t32 (Nat.le_trans (Nat.le_trans (Nat.le_trans (Nat.le_trans Kq35.1 E144.1) (Keep.of_wr W147).1) (Keep.of_wr W150).1) (Keep.of_wr W153).1)) (Nat.le_of_eq g156.symm)))).other W165 (Nat.ne_of_lt (Nat.lt_of_lt_of_le (Nat.lt_of_lt_of_le lt_t32 (Nat.le_trans (Nat.le_trans (Nat.le_trans (Nat.le_trans Kq35.1 E144.1) (Keep.of_wr W147).1) (Keep.of_wr W150).1) (Keep.of_wr W153).1)) (Nat.le_of_eq g156.symm)))).other W168 (Nat.ne_of_lt (Nat.lt_of_lt_of_le (Nat.lt_of_lt_of_le lt_t32 (Nat.le_trans (Nat.le_trans (Nat.le_trans (Nat.le_trans Kq35.1 E144.1) (Keep.of_wr W147).1) (Keep.of_wr W150).1) (Keep.of_wr W153).1)) (Nat.le_of_eq g156.symm)))), So32.2.2.2.2.1, So32.2.2.2.2.2⟩ O2 P5 (((((((((((((X00.keep Kq26 all0).keep Kq29 all0).keep Kq32 all0).keep Kq35 all0).ext E144).wr W147 (Nat.le_trans Z0 (Nat.le_trans K35.1 (Nat.le_of_eq g144.symm)))).wr W150 (Nat.le_trans Z0 (Nat.le_trans K35.1 (Nat.le_of_eq g144.symm)))).wr W153 (Nat.le_trans Z0 (Nat.le_trans K35.1 (Nat.le_of_eq g144.symm)))).ext E156).wr W159 (Nat.le_trans Z0 (Nat.le_trans K153.1 (Nat.le_of_eq g156.symm)))).wr W162 (Nat.le_trans Z0 (Nat.le_trans K153.1 (Nat.le_of_eq g156.symm)))).wr W165 (Nat.le_trans Z0 (Nat.le_trans K153.1 (Nat.le_of_eq g156.symm)))).wr W168 (Nat.le_trans Z0 (Nat.le_trans K153.1 (Nat.le_of_eq g156.symm))))) hZ35 (hw _ (List.mem_of_getElem? (i := 61) rfl)) (hw _ (List.mem_of_getElem? (i := 2) rfl)) (by decide) (by decide)) q217a q217c (g := (mkF m 287 #[.val (.int p0), .val (.int p1), .val (.int p2), .val (.int p3), .val (.int p4), .val (.int p5), .val (.int k3), .val (.ref pk), .val (.int (3 : Int32)), .val (.int (2 : Int32)), .val (.ref x26), .val (.ref x29), .val (.ref x32), .val (.ref x35), .val (.ref b144), .val (.ref b156), .val (.int he), .val (.int (1 : Int32)), .val (.int ex), .unset] [(.int (2 : Int32)), (.ref b144), (.ref pk)])) rfl (by rw [hml]; rfl) (Steps.refl _) (argsL := [(.ref b144), (.int (2 : Int32))]) (rest := []) (lenOf pd_oaLjavaslangsStringeIcI rfl) rfl (by show 2 * 0 + _ ≤ _; exact Nat.le_of_eq rfl) (hb hby at_287) (fun _ _ => ⟨rfl, e168, (by decide : 26 + 0 ≤ _), (by decide : 55 + 0 ≤ _)⟩)
          dsimp only [Pt.U, Pt.locs, Pt.cells, Pt.slots] at X217 l217 y217 z217 st217 hQ217
          subst l217 y217 z217
          obtain ⟨rfl, Nq217, eq217⟩ := hQ217
          have c218 : Steps p.tables e below S0 (T217.setTop (mkF m 290 #[.val (.int p0), .val (.int p1), .val (.int p2), .val (.int p3), .val (.int p4), .val (.int p5), .val (.int k3), .val (.ref pk), .val (.int (3 : Int32)), .val (.int (2 : Int32)), .val (.ref x26), .val (.ref x29), .val (.ref x32), .val (.ref x35), .val (.ref b144), .val (.ref b156), .val (.int he), .val (.int (1 : Int32)), .val (.int ex), .unset] [(.int (own_span rr te (3 : Int32) (2 : Int32) cs32.length))])) := c216.trans (st217)
          have N217 := Fr.app N168 Nq217
          have c219 : Steps p.tables e below S0 (T217.setTop (mkF m 304 #[.val (.int p0), .val (.int p1), .val (.int p2), .val (.int p3), .val (.int p4), .val (.int p5), .val (.int k3), .val (.ref pk), .val (.int (3 : Int32)), .val (.int (2 : Int32)), .val (.ref x26), .val (.ref x29), .val (.ref x32), .val (.ref x35), .val (.ref b144), .val (.ref b156), .val (.int he), .val (.int (1 : Int32)), .val (.int ex), .val (.int (own_span rr te (3 : Int32) (2 : Int32) cs32.length))] [(.int (1 : Int32))])) := c218.trans (by
            show Steps p.tables e below (T217.setTop (mkF m 290 #[.val (.int p0), .val (.int p1), .val (.int p2), .val (.int p3), .val (.int p4), .val (.int p5), .val (.int k3), .val (.ref pk), .val (.int (3 : Int32)), .val (.int (2 : Int32)), .val (.ref x26), .val (.ref x29), .val (.ref x32), .val (.ref x35), .val (.ref b144), .val (.ref b156), .val (.int he), .val (.int (1 : Int32)), .val (.int ex), .unset] [(.int (own_span rr te (3 : Int32) (2 : Int32) cs32.length))])) _
            refine XS.istore X217.here hx rfl (hb hby at_290) rfl (l' := #[.val (.int p0), .val (.int p1), .val (.int p2), .val (.int p3), .val (.int p4), .val (.int p5), .val (.int k3), .val (.ref pk), .val (.int (3 : Int32)), .val (.int (2 : Int32)), .val (.ref x26), .val (.ref x29), .val (.ref x32), .val (.ref x35), .val (.ref b144), .val (.ref b156), .val (.int he), .val (.int (1 : Int32)), .val (.int ex), .val (.int (own_span rr te (3 : Int32) (2 : Int32) cs32.length))]) rfl ?_
            refine XS.iload X217.here hx rfl (hb hby at_292) rfl ?_
            refine XS.iload X217.here hx rfl (hb hby at_294) rfl ?_
            refine XS.icmpNo X217.here hx rfl (hb hby at_296) rfl (teq (own_ex32 hkk em32 hhe hex)).2 ?_
            show Steps p.tables e below (T217.setTop (mkF m 299 #[.val (.int p0), .val (.int p1), .val (.int p2), .val (.int p3), .val (.int p4), .val (.int p5), .val (.int k3), .val (.ref pk), .val (.int (3 : Int32)), .val (.int (2 : Int32)), .val (.ref x26), .val (.ref x29), .val (.ref x32), .val (.ref x35), .val (.ref b144), .val (.ref b156), .val (.int he), .val (.int (1 : Int32)), .val (.int ex), .val (.int (own_span rr te (3 : Int32) (2 : Int32) cs32.length))] [])) _
            refine XS.iconst X217.here hx rfl (hb hby at_299) ?_
            refine XS.goto X217.here hx rfl (pc0 := 300) (pc' := 304) rfl (hb hby at_300) (by decide) (by decide) ?_
            exact Steps.refl _)
          obtain ⟨fs, hr, hrun, hended, hW⟩ := X217.leaveW hS35 (by rw [eq217]; exact (Nat.le_trans (Nat.le_refl _) (Nat.le_trans (Nat.le_trans (Nat.le_trans (Nat.le_trans (Nat.le_trans (Nat.le_trans (Nat.le_trans (Nat.le_trans E144.1 (Keep.of_wr W147).1) (Keep.of_wr W150).1) (Keep.of_wr W153).1) E156.1) (Keep.of_wr W159).1) (Keep.of_wr W162).1) (Keep.of_wr W165).1) (Keep.of_wr W168).1))) (v := some (.int (1 : Int32))) (fun h => by rw [Bd.returns] at h; cases h)
          refine ⟨_, _, c219.trans (retOut X217 hx Bd.returns rfl (Or.inl ⟨rfl, by simp, _, rfl⟩) (hb hby at_304) hr), hrun, hended, _, _, rfl, ?_, ?_, hW.1, hW.2.1, hW.2.2.1, hW.2.2.2.mono (by decide) (by decide)⟩
          · show Q0 Z  h0 n0 _ T217.heap _
            rw [eq217]
            exact ⟨rfl, N217⟩
          · show CHr Z EL s.vm s.heap T217.vm T217.heap
            rw [hh, eq217]; exact R168.trans (CHv.at X217 hZ35 hEL R168.1)
      · have c220 : Steps p.tables e below S0 (T35.setTop (mkF m 156 #[.val (.int p0), .val (.int p1), .val (.int p2), .val (.int p3), .val (.int p4), .val (.int p5), .val (.int k3), .val (.ref pk), .val (.int nn), .val (.int ix), .val (.ref x26), .val (.ref x29), .val (.ref x32), .val (.ref x35), .unset, .unset, .unset, .unset, .unset, .unset] [])) := c140.trans (by
          show Steps p.tables e below (T35.setTop (mkF m 129 #[.val (.int p0), .val (.int p1), .val (.int p2), .val (.int p3), .val (.int p4), .val (.int p5), .val (.int k3), .val (.ref pk), .val (.int nn), .val (.int ix), .val (.ref x26), .val (.ref x29), .val (.ref x32), .val (.ref x35), .unset, .unset, .unset, .unset, .unset, .unset] [(.int (3 : Int32)), (.int nn)])) _
          refine XS.icmpYes X35.here hx rfl (pc0 := 129) (pc' := 156) rfl (hb hby at_129) rfl (feq hq141).2 (by decide) (by decide) ?_
          exact Steps.refl _)
        have e4 : nn = 4 := by
          rcases hn4 with q | q | q | q
          · exact absurd q hq38
          · exact absurd q hq80
          · exact absurd q hq141
          · exact q
        rw [e4] at c220
        have hix3 := own_ix4 (e4 ▸ hix2)
        have c221 : Steps p.tables e below S0 (T35.setTop (mkF m 157 #[.val (.int p0), .val (.int p1), .val (.int p2), .val (.int p3), .val (.int p4), .val (.int p5), .val (.int k3), .val (.ref pk), .val (.int (4 : Int32)), .val (.int ix), .val (.ref x26), .val (.ref x29), .val (.ref x32), .val (.ref x35), .unset, .unset, .unset, .unset, .unset, .unset] [(.int (4 : Int32))])) := c220.trans (by
          show Steps p.tables e below (T35.setTop (mkF m 156 #[.val (.int p0), .val (.int p1), .val (.int p2), .val (.int p3), .val (.int p4), .val (.int p5), .val (.int k3), .val (.ref pk), .val (.int (4 : Int32)), .val (.int ix), .val (.ref x26), .val (.ref x29), .val (.ref x32), .val (.ref x35), .unset, .unset, .unset, .unset, .unset, .unset] [])) _
          refine XS.iconst X35.here hx rfl (hb hby at_156) ?_
          exact Steps.refl _)
        obtain ⟨T222, h222, k222, X222, e222, E222, A222, O222, st222⟩ := newR X35 hx hZ35 hown35 (hw _ (List.mem_of_getElem? (i := 8) rfl)) (hw _ (List.mem_of_getElem? (i := 55) rfl)) rfl (g := (mkF m 157 #[.val (.int p0), .val (.int p1), .val (.int p2), .val (.int p3), .val (.int p4), .val (.int p5), .val (.int k3), .val (.ref pk), .val (.int (4 : Int32)), .val (.int ix), .val (.ref x26), .val (.ref x29), .val (.ref x32), .val (.ref x35), .unset, .unset, .unset, .unset, .unset, .unset] [(.int (4 : Int32))])) rfl (hb hby at_157) rfl (by decide) (cap := 4) (by decide) (by decide) (by decide) (by decide)
        obtain ⟨b222, g222⟩ : ∃ z, z = T35.heap.size := ⟨_, rfl⟩
        rw [← g222] at A222 st222
        have c223 : Steps p.tables e below S0 (T222.setTop (mkF m 160 #[.val (.int p0), .val (.int p1), .val (.int p2), .val (.int p3), .val (.int p4), .val (.int p5), .val (.int k3), .val (.ref pk), .val (.int (4 : Int32)), .val (.int ix), .val (.ref x26), .val (.ref x29), .val (.ref x32), .val (.ref x35), .unset, .unset, .unset, .unset, .unset, .unset] [(.ref b222)])) := c221.trans (st222 _ (Steps.refl _))
        have z222 : n0 ≤ h222.size := Nat.le_trans z35 E222.1
        have K222 := K35.ext E222
        have r222 : CHr Z EL T35.vm T35.heap T35.vm h222 := CHr.ext E222 R35.1
        have R222 := R35.trans r222
        have V222 : Arv Z h222 b222 k222 (.object "java/lang/String") (4 : Int32) [.null, .null, .null, .null] .null := (Arv.new A222 (by decide)).pad (pad_rep [] .null 4)
        have lt_b222 : b222 < h222.size := V222.lt
        have c224 : Steps p.tables e below S0 (T222.setTop (mkF m 164 #[.val (.int p0), .val (.int p1), .val (.int p2), .val (.int p3), .val (.int p4), .val (.int p5), .val (.int k3), .val (.ref pk), .val (.int (4 : Int32)), .val (.int ix), .val (.ref x26), .val (.ref x29), .val (.ref x32), .val (.ref x35), .unset, .unset, .unset, .unset, .unset, .unset] [(.ref x26), (.int (0 : Int32)), (.ref b222), (.ref b222)])) := c223.trans (by
          show Steps p.tables e below (T222.setTop (mkF m 160 #[.val (.int p0), .val (.int p1), .val (.int p2), .val (.int p3), .val (.int p4), .val (.int p5), .val (.int k3), .val (.ref pk), .val (.int (4 : Int32)), .val (.int ix), .val (.ref x26), .val (.ref x29), .val (.ref x32), .val (.ref x35), .unset, .unset, .unset, .unset, .unset, .unset] [(.ref b222)])) _
          refine XS.dup X222.here hx rfl (hb hby at_160) rfl rfl ?_
          refine XS.iconst X222.here hx rfl (hb hby at_161) ?_
          refine XS.aload X222.here hx rfl (hb hby at_162) rfl rfl ?_
          exact Steps.refl _)
        obtain ⟨cl225, Ar225, q225, S225, Nn225, Ha225, G225⟩ := id V222
        obtain ⟨T225, h225, X225, e225, W225, st225⟩ := stR X222 hx hZ35 e222 Ar225 (j := (0 : Int32)) (inb_of S225 ⟨by decide, by decide⟩) rfl (Sto.ofV Ar225 q225 O222 (Ins.self ((((So26.1.keep Kq29).keep Kq32).keep Kq35).ext E222))) (g := (mkF m 164 #[.val (.int p0), .val (.int p1), .val (.int p2), .val (.int p3), .val (.int p4), .val (.int p5), .val (.int k3), .val (.ref pk), .val (.int (4 : Int32)), .val (.int ix), .val (.ref x26), .val (.ref x29), .val (.ref x32), .val (.ref x35), .unset, .unset, .unset, .unset, .unset, .unset] [(.ref x26), (.int (0 : Int32)), (.ref b222), (.ref b222)])) rfl rfl (hb hby at_164)
        have V225 : Arv Z h225 b222 k222 (.object "java/lang/String") (4 : Int32) [(.ref x26), .null, .null, .null] .null := Arv.set Ar225 q225 S225 Nn225 Ha225 G225 rfl W225 0 rfl (Nat.le_of_ble_eq_true rfl)
        have c226 : Steps p.tables e below S0 (T225.setTop (mkF m 165 #[.val (.int p0), .val (.int p1), .val (.int p2), .val (.int p3), .val (.int p4), .val (.int p5), .val (.int k3), .val (.ref pk), .val (.int (4 : Int32)), .val (.int ix), .val (.ref x26), .val (.ref x29), .val (.ref x32), .val (.ref x35), .unset, .unset, .unset, .unset, .unset, .unset] [(.ref b222)])) := c224.trans (st225 _ (Steps.refl _))
        have N225 := Fr.snoc X225 N35 (Nat.le_trans Z0 (Nat.le_trans K35.1 (Nat.le_of_eq g222.symm)))
        have z225 : n0 ≤ h225.size := Nat.le_trans z222 (Keep.of_wr W225).1
        have K225 := K222.wr W225 (Or.inr (Nat.le_trans K35.1 (Nat.le_of_eq g222.symm)))
        have r225 : CHr Z EL T35.vm h222 T35.vm h225 := CHr.wr W225 (Safe.arv hZ35.alike V222 (by decide)) R222.1
        have R225 := R222.trans r225
        have c227 : Steps p.tables e below S0 (T225.setTop (mkF m 169 #[.val (.int p0), .val (.int p1), .val (.int p2), .val (.int p3), .val (.int p4), .val (.int p5), .val (.int k3), .val (.ref pk), .val (.int (4 : Int32)), .val (.int ix), .val (.ref x26), .val (.ref x29), .val (.ref x32), .val (.ref x35), .unset, .unset, .unset, .unset, .unset, .unset] [(.ref x29), (.int (1 : Int32)), (.ref b222), (.ref b222)])) := c226.trans (by
          show Steps p.tables e below (T225.setTop (mkF m 165 #[.val (.int p0), .val (.int p1), .val (.int p2), .val (.int p3), .val (.int p4), .val (.int p5), .val (.int k3), .val (.ref pk), .val (.int (4 : Int32)), .val (.int ix), .val (.ref x26), .val (.ref x29), .val (.ref x32), .val (.ref x35), .unset, .unset, .unset, .unset, .unset, .unset] [(.ref b222)])) _
          refine XS.dup X225.here hx rfl (hb hby at_165) rfl rfl ?_
          refine XS.iconst X225.here hx rfl (hb hby at_166) ?_
          refine XS.aload X225.here hx rfl (hb hby at_167) rfl rfl ?_
          exact Steps.refl _)
        obtain ⟨cl228, Ar228, q228, S228, Nn228, Ha228, G228⟩ := id V225
        obtain ⟨T228, h228, X228, e228, W228, st228⟩ := stR X225 hx hZ35 e225 Ar228 (j := (1 : Int32)) (inb_of S228 ⟨by decide, by decide⟩) rfl (Sto.ofV Ar228 q228 O222 (Ins.self ((((So29.1.keep Kq32).keep Kq35).ext E222).wr W225))) (g := (mkF m 169 #[.val (.int p0), .val (.int p1), .val (.int p2), .val (.int p3), .val (.int p4), .val (.int p5), .val (.int k3), .val (.ref pk), .val (.int (4 : Int32)), .val (.int ix), .val (.ref x26), .val (.ref x29), .val (.ref x32), .val (.ref x35), .unset, .unset, .unset, .unset, .unset, .unset] [(.ref x29), (.int (1 : Int32)), (.ref b222), (.ref b222)])) rfl rfl (hb hby at_169)
        have V228 : Arv Z h228 b222 k222 (.object "java/lang/String") (4 : Int32) [(.ref x26), (.ref x29), .null, .null] .null := Arv.set Ar228 q228 S228 Nn228 Ha228 G228 rfl W228 1 rfl (Nat.le_of_ble_eq_true rfl)
        have c229 : Steps p.tables e below S0 (T228.setTop (mkF m 170 #[.val (.int p0), .val (.int p1), .val (.int p2), .val (.int p3), .val (.int p4), .val (.int p5), .val (.int k3), .val (.ref pk), .val (.int (4 : Int32)), .val (.int ix), .val (.ref x26), .val (.ref x29), .val (.ref x32), .val (.ref x35), .unset, .unset, .unset, .unset, .unset, .unset] [(.ref b222)])) := c227.trans (st228 _ (Steps.refl _))
        have N228 := Fr.snoc X228 N225 (Nat.le_trans Z0 (Nat.le_trans K35.1 (Nat.le_of_eq g222.symm)))
        have z228 : n0 ≤ h228.size := Nat.le_trans z225 (Keep.of_wr W228).1
        have K228 := K225.wr W228 (Or.inr (Nat.le_trans K35.1 (Nat.le_of_eq g222.symm)))
        have r228 : CHr Z EL T35.vm h225 T35.vm h228 := CHr.wr W228 (Safe.arv hZ35.alike V225 (by decide)) R225.1
        have R228 := R225.trans r228
        have c230 : Steps p.tables e below S0 (T228.setTop (mkF m 174 #[.val (.int p0), .val (.int p1), .val (.int p2), .val (.int p3), .val (.int p4), .val (.int p5), .val (.int k3), .val (.ref pk), .val (.int (4 : Int32)), .val (.int ix), .val (.ref x26), .val (.ref x29), .val (.ref x32), .val (.ref x35), .unset, .unset, .unset, .unset, .unset, .unset] [(.ref x32), (.int (2 : Int32)), (.ref b222), (.ref b222)])) := c229.trans (by
          show Steps p.tables e below (T228.setTop (mkF m 170 #[.val (.int p0), .val (.int p1), .val (.int p2), .val (.int p3), .val (.int p4), .val (.int p5), .val (.int k3), .val (.ref pk), .val (.int (4 : Int32)), .val (.int ix), .val (.ref x26), .val (.ref x29), .val (.ref x32), .val (.ref x35), .unset, .unset, .unset, .unset, .unset, .unset] [(.ref b222)])) _
          refine XS.dup X228.here hx rfl (hb hby at_170) rfl rfl ?_
          refine XS.iconst X228.here hx rfl (hb hby at_171) ?_
          refine XS.aload X228.here hx rfl (hb hby at_172) rfl rfl ?_
          exact Steps.refl _)
        obtain ⟨cl231, Ar231, q231, S231, Nn231, Ha231, G231⟩ := id V228
        obtain ⟨T231, h231, X231, e231, W231, st231⟩ := stR X228 hx hZ35 e228 Ar231 (j := (2 : Int32)) (inb_of S231 ⟨by decide, by decide⟩) rfl (Sto.ofV Ar231 q231 O222 (Ins.self ((((So32.1.keep Kq35).ext E222).wr W225).wr W228))) (g := (mkF m 174 #[.val (.int p0), .val (.int p1), .val (.int p2), .val (.int p3), .val (.int p4), .val (.int p5), .val (.int k3), .val (.ref pk), .val (.int (4 : Int32)), .val (.int ix), .val (.ref x26), .val (.ref x29), .val (.ref x32), .val (.ref x35), .unset, .unset, .unset, .unset, .unset, .unset] [(.ref x32), (.int (2 : Int32)), (.ref b222), (.ref b222)])) rfl rfl (hb hby at_174)
        have V231 : Arv Z h231 b222 k222 (.object "java/lang/String") (4 : Int32) [(.ref x26), (.ref x29), (.ref x32), .null] .null := Arv.set Ar231 q231 S231 Nn231 Ha231 G231 rfl W231 2 rfl (Nat.le_of_ble_eq_true rfl)
        have c232 : Steps p.tables e below S0 (T231.setTop (mkF m 175 #[.val (.int p0), .val (.int p1), .val (.int p2), .val (.int p3), .val (.int p4), .val (.int p5), .val (.int k3), .val (.ref pk), .val (.int (4 : Int32)), .val (.int ix), .val (.ref x26), .val (.ref x29), .val (.ref x32), .val (.ref x35), .unset, .unset, .unset, .unset, .unset, .unset] [(.ref b222)])) := c230.trans (st231 _ (Steps.refl _))
        have N231 := Fr.snoc X231 N228 (Nat.le_trans Z0 (Nat.le_trans K35.1 (Nat.le_of_eq g222.symm)))
        have z231 : n0 ≤ h231.size := Nat.le_trans z228 (Keep.of_wr W231).1
        have K231 := K228.wr W231 (Or.inr (Nat.le_trans K35.1 (Nat.le_of_eq g222.symm)))
        have r231 : CHr Z EL T35.vm h228 T35.vm h231 := CHr.wr W231 (Safe.arv hZ35.alike V228 (by decide)) R228.1
        have R231 := R228.trans r231
        have c233 : Steps p.tables e below S0 (T231.setTop (mkF m 179 #[.val (.int p0), .val (.int p1), .val (.int p2), .val (.int p3), .val (.int p4), .val (.int p5), .val (.int k3), .val (.ref pk), .val (.int (4 : Int32)), .val (.int ix), .val (.ref x26), .val (.ref x29), .val (.ref x32), .val (.ref x35), .unset, .unset, .unset, .unset, .unset, .unset] [(.ref x35), (.int (3 : Int32)), (.ref b222), (.ref b222)])) := c232.trans (by
          show Steps p.tables e below (T231.setTop (mkF m 175 #[.val (.int p0), .val (.int p1), .val (.int p2), .val (.int p3), .val (.int p4), .val (.int p5), .val (.int k3), .val (.ref pk), .val (.int (4 : Int32)), .val (.int ix), .val (.ref x26), .val (.ref x29), .val (.ref x32), .val (.ref x35), .unset, .unset, .unset, .unset, .unset, .unset] [(.ref b222)])) _
          refine XS.dup X231.here hx rfl (hb hby at_175) rfl rfl ?_
          refine XS.iconst X231.here hx rfl (hb hby at_176) ?_
          refine XS.aload X231.here hx rfl (hb hby at_177) rfl rfl ?_
          exact Steps.refl _)
        obtain ⟨cl234, Ar234, q234, S234, Nn234, Ha234, G234⟩ := id V231
        obtain ⟨T234, h234, X234, e234, W234, st234⟩ := stR X231 hx hZ35 e231 Ar234 (j := (3 : Int32)) (inb_of S234 ⟨by decide, by decide⟩) rfl (Sto.ofV Ar234 q234 O222 (Ins.self ((((So35.1.ext E222).wr W225).wr W228).wr W231))) (g := (mkF m 179 #[.val (.int p0), .val (.int p1), .val (.int p2), .val (.int p3), .val (.int p4), .val (.int p5), .val (.int k3), .val (.ref pk), .val (.int (4 : Int32)), .val (.int ix), .val (.ref x26), .val (.ref x29), .val (.ref x32), .val (.ref x35), .unset, .unset, .unset, .unset, .unset, .unset] [(.ref x35), (.int (3 : Int32)), (.ref b222), (.ref b222)])) rfl rfl (hb hby at_179)
        have V234 : Arv Z h234 b222 k222 (.object "java/lang/String") (4 : Int32) [(.ref x26), (.ref x29), (.ref x32), (.ref x35)] .null := Arv.set Ar234 q234 S234 Nn234 Ha234 G234 rfl W234 3 rfl (Nat.le_of_ble_eq_true rfl)
        have c235 : Steps p.tables e below S0 (T234.setTop (mkF m 180 #[.val (.int p0), .val (.int p1), .val (.int p2), .val (.int p3), .val (.int p4), .val (.int p5), .val (.int k3), .val (.ref pk), .val (.int (4 : Int32)), .val (.int ix), .val (.ref x26), .val (.ref x29), .val (.ref x32), .val (.ref x35), .unset, .unset, .unset, .unset, .unset, .unset] [(.ref b222)])) := c233.trans (st234 _ (Steps.refl _))
        have N234 := Fr.snoc X234 N231 (Nat.le_trans Z0 (Nat.le_trans K35.1 (Nat.le_of_eq g222.symm)))
        have z234 : n0 ≤ h234.size := Nat.le_trans z231 (Keep.of_wr W234).1
        have K234 := K231.wr W234 (Or.inr (Nat.le_trans K35.1 (Nat.le_of_eq g222.symm)))
        have r234 : CHr Z EL T35.vm h231 T35.vm h234 := CHr.wr W234 (Safe.arv hZ35.alike V231 (by decide)) R231.1
        have R234 := R231.trans r234
        have c236 : Steps p.tables e below S0 (T234.setTop (mkF m 183 #[.val (.int p0), .val (.int p1), .val (.int p2), .val (.int p3), .val (.int p4), .val (.int p5), .val (.int k3), .val (.ref pk), .val (.int (4 : Int32)), .val (.int ix), .val (.ref x26), .val (.ref x29), .val (.ref x32), .val (.ref x35), .val (.ref b222), .unset, .unset, .unset, .unset, .unset] [(.int (4 : Int32))])) := c235.trans (by
          show Steps p.tables e below (T234.setTop (mkF m 180 #[.val (.int p0), .val (.int p1), .val (.int p2), .val (.int p3), .val (.int p4), .val (.int p5), .val (.int k3), .val (.ref pk), .val (.int (4 : Int32)), .val (.int ix), .val (.ref x26), .val (.ref x29), .val (.ref x32), .val (.ref x35), .unset, .unset, .unset, .unset, .unset, .unset] [(.ref b222)])) _
          refine XS.astore X234.here hx rfl (hb hby at_180) rfl rfl (l' := #[.val (.int p0), .val (.int p1), .val (.int p2), .val (.int p3), .val (.int p4), .val (.int p5), .val (.int k3), .val (.ref pk), .val (.int (4 : Int32)), .val (.int ix), .val (.ref x26), .val (.ref x29), .val (.ref x32), .val (.ref x35), .val (.ref b222), .unset, .unset, .unset, .unset, .unset]) rfl ?_
          refine XS.iconst X234.here hx rfl (hb hby at_182) ?_
          exact Steps.refl _)
        obtain ⟨T237, h237, k237, X237, e237, E237, A237, st237⟩ := newP X234 hx hZ35 (hw _ (List.mem_of_getElem? (i := 56) rfl)) e234 (g := (mkF m 183 #[.val (.int p0), .val (.int p1), .val (.int p2), .val (.int p3), .val (.int p4), .val (.int p5), .val (.int k3), .val (.ref pk), .val (.int (4 : Int32)), .val (.int ix), .val (.ref x26), .val (.ref x29), .val (.ref x32), .val (.ref x35), .val (.ref b222), .unset, .unset, .unset, .unset, .unset] [(.int (4 : Int32))])) rfl (hb hby at_183) rfl (by decide) (cap := 4) (by decide) (by decide) (by decide) (by decide)
        obtain ⟨b237, g237⟩ : ∃ z, z = h234.size := ⟨_, rfl⟩
        rw [← g237] at A237 st237
        have c238 : Steps p.tables e below S0 (T237.setTop (mkF m 185 #[.val (.int p0), .val (.int p1), .val (.int p2), .val (.int p3), .val (.int p4), .val (.int p5), .val (.int k3), .val (.ref pk), .val (.int (4 : Int32)), .val (.int ix), .val (.ref x26), .val (.ref x29), .val (.ref x32), .val (.ref x35), .val (.ref b222), .unset, .unset, .unset, .unset, .unset] [(.ref b237)])) := c236.trans (st237 _ (Steps.refl _))
        have z237 : n0 ≤ h237.size := Nat.le_trans z234 E237.1
        have K237 := K234.ext E237
        have r237 : CHr Z EL T35.vm h234 T35.vm h237 := CHr.ext E237 R234.1
        have R237 := R234.trans r237
        have V237 : Arv Z h237 b237 k237 .int (4 : Int32) [(.int (0 : Int32)), (.int (0 : Int32)), (.int (0 : Int32)), (.int (0 : Int32))] (.int (0 : Int32)) := (Arv.new A237 (by decide)).pad (pad_rep [] (.int (0 : Int32)) 4)
        have lt_b237 : b237 < h237.size := V237.lt
        have c239 : Steps p.tables e below S0 (T237.setTop (mkF m 188 #[.val (.int p0), .val (.int p1), .val (.int p2), .val (.int p3), .val (.int p4), .val (.int p5), .val (.int k3), .val (.ref pk), .val (.int (4 : Int32)), .val (.int ix), .val (.ref x26), .val (.ref x29), .val (.ref x32), .val (.ref x35), .val (.ref b222), .unset, .unset, .unset, .unset, .unset] [(.int p2), (.int (0 : Int32)), (.ref b237), (.ref b237)])) := c238.trans (by
          show Steps p.tables e below (T237.setTop (mkF m 185 #[.val (.int p0), .val (.int p1), .val (.int p2), .val (.int p3), .val (.int p4), .val (.int p5), .val (.int k3), .val (.ref pk), .val (.int (4 : Int32)), .val (.int ix), .val (.ref x26), .val (.ref x29), .val (.ref x32), .val (.ref x35), .val (.ref b222), .unset, .unset, .unset, .unset, .unset] [(.ref b237)])) _
          refine XS.dup X237.here hx rfl (hb hby at_185) rfl rfl ?_
          refine XS.iconst X237.here hx rfl (hb hby at_186) ?_
          refine XS.iloadN X237.here hx rfl (hb hby at_187) rfl ?_
          exact Steps.refl _)
        obtain ⟨cl240, Ar240, q240, S240, Nn240, Ha240, G240⟩ := id V237
        obtain ⟨T240, h240, X240, e240, W240, st240⟩ := stI X237 hx hZ35 e237 Ar240 (j := (0 : Int32)) (inb_of S240 ⟨by decide, by decide⟩) (g := (mkF m 188 #[.val (.int p0), .val (.int p1), .val (.int p2), .val (.int p3), .val (.int p4), .val (.int p5), .val (.int k3), .val (.ref pk), .val (.int (4 : Int32)), .val (.int ix), .val (.ref x26), .val (.ref x29), .val (.ref x32), .val (.ref x35), .val (.ref b222), .unset, .unset, .unset, .unset, .unset] [(.int p2), (.int (0 : Int32)), (.ref b237), (.ref b237)])) rfl rfl (hb hby at_188)
        have V240 : Arv Z h240 b237 k237 .int (4 : Int32) [(.int p2), (.int (0 : Int32)), (.int (0 : Int32)), (.int (0 : Int32))] (.int (0 : Int32)) := Arv.set Ar240 q240 S240 Nn240 Ha240 G240 rfl W240 0 rfl (Nat.le_of_ble_eq_true rfl)
        have c241 : Steps p.tables e below S0 (T240.setTop (mkF m 189 #[.val (.int p0), .val (.int p1), .val (.int p2), .val (.int p3), .val (.int p4), .val (.int p5), .val (.int k3), .val (.ref pk), .val (.int (4 : Int32)), .val (.int ix), .val (.ref x26), .val (.ref x29), .val (.ref x32), .val (.ref x35), .val (.ref b222), .unset, .unset, .unset, .unset, .unset] [(.ref b237)])) := c239.trans (st240 _ (Steps.refl _))
        have N240 := Fr.snoc X240 N234 (Nat.le_trans Z0 (Nat.le_trans K234.1 (Nat.le_of_eq g237.symm)))
        have z240 : n0 ≤ h240.size := Nat.le_trans z237 (Keep.of_wr W240).1
        have K240 := K237.wr W240 (Or.inr (Nat.le_trans K234.1 (Nat.le_of_eq g237.symm)))
        have r240 : CHr Z EL T35.vm h237 T35.vm h240 := CHr.wr W240 (Safe.arv hZ35.alike V237 (by decide)) R237.1
        have R240 := R237.trans r240
        have c242 : Steps p.tables e below S0 (T240.setTop (mkF m 192 #[.val (.int p0), .val (.int p1), .val (.int p2), .val (.int p3), .val (.int p4), .val (.int p5), .val (.int k3), .val (.ref pk), .val (.int (4 : Int32)), .val (.int ix), .val (.ref x26), .val (.ref x29), .val (.ref x32), .val (.ref x35), .val (.ref b222), .unset, .unset, .unset, .unset, .unset] [(.int p3), (.int (1 : Int32)), (.ref b237), (.ref b237)])) := c241.trans (by
          show Steps p.tables e below (T240.setTop (mkF m 189 #[.val (.int p0), .val (.int p1), .val (.int p2), .val (.int p3), .val (.int p4), .val (.int p5), .val (.int k3), .val (.ref pk), .val (.int (4 : Int32)), .val (.int ix), .val (.ref x26), .val (.ref x29), .val (.ref x32), .val (.ref x35), .val (.ref b222), .unset, .unset, .unset, .unset, .unset] [(.ref b237)])) _
          refine XS.dup X240.here hx rfl (hb hby at_189) rfl rfl ?_
          refine XS.iconst X240.here hx rfl (hb hby at_190) ?_
          refine XS.iloadN X240.here hx rfl (hb hby at_191) rfl ?_
          exact Steps.refl _)
        obtain ⟨cl243, Ar243, q243, S243, Nn243, Ha243, G243⟩ := id V240
        obtain ⟨T243, h243, X243, e243, W243, st243⟩ := stI X240 hx hZ35 e240 Ar243 (j := (1 : Int32)) (inb_of S243 ⟨by decide, by decide⟩) (g := (mkF m 192 #[.val (.int p0), .val (.int p1), .val (.int p2), .val (.int p3), .val (.int p4), .val (.int p5), .val (.int k3), .val (.ref pk), .val (.int (4 : Int32)), .val (.int ix), .val (.ref x26), .val (.ref x29), .val (.ref x32), .val (.ref x35), .val (.ref b222), .unset, .unset, .unset, .unset, .unset] [(.int p3), (.int (1 : Int32)), (.ref b237), (.ref b237)])) rfl rfl (hb hby at_192)
        have V243 : Arv Z h243 b237 k237 .int (4 : Int32) [(.int p2), (.int p3), (.int (0 : Int32)), (.int (0 : Int32))] (.int (0 : Int32)) := Arv.set Ar243 q243 S243 Nn243 Ha243 G243 rfl W243 1 rfl (Nat.le_of_ble_eq_true rfl)
        have c244 : Steps p.tables e below S0 (T243.setTop (mkF m 193 #[.val (.int p0), .val (.int p1), .val (.int p2), .val (.int p3), .val (.int p4), .val (.int p5), .val (.int k3), .val (.ref pk), .val (.int (4 : Int32)), .val (.int ix), .val (.ref x26), .val (.ref x29), .val (.ref x32), .val (.ref x35), .val (.ref b222), .unset, .unset, .unset, .unset, .unset] [(.ref b237)])) := c242.trans (st243 _ (Steps.refl _))
        have N243 := Fr.snoc X243 N240 (Nat.le_trans Z0 (Nat.le_trans K234.1 (Nat.le_of_eq g237.symm)))
        have z243 : n0 ≤ h243.size := Nat.le_trans z240 (Keep.of_wr W243).1
        have K243 := K240.wr W243 (Or.inr (Nat.le_trans K234.1 (Nat.le_of_eq g237.symm)))
        have r243 : CHr Z EL T35.vm h240 T35.vm h243 := CHr.wr W243 (Safe.arv hZ35.alike V240 (by decide)) R240.1
        have R243 := R240.trans r243
        have c245 : Steps p.tables e below S0 (T243.setTop (mkF m 197 #[.val (.int p0), .val (.int p1), .val (.int p2), .val (.int p3), .val (.int p4), .val (.int p5), .val (.int k3), .val (.ref pk), .val (.int (4 : Int32)), .val (.int ix), .val (.ref x26), .val (.ref x29), .val (.ref x32), .val (.ref x35), .val (.ref b222), .unset, .unset, .unset, .unset, .unset] [(.int p4), (.int (2 : Int32)), (.ref b237), (.ref b237)])) := c244.trans (by
          show Steps p.tables e below (T243.setTop (mkF m 193 #[.val (.int p0), .val (.int p1), .val (.int p2), .val (.int p3), .val (.int p4), .val (.int p5), .val (.int k3), .val (.ref pk), .val (.int (4 : Int32)), .val (.int ix), .val (.ref x26), .val (.ref x29), .val (.ref x32), .val (.ref x35), .val (.ref b222), .unset, .unset, .unset, .unset, .unset] [(.ref b237)])) _
          refine XS.dup X243.here hx rfl (hb hby at_193) rfl rfl ?_
          refine XS.iconst X243.here hx rfl (hb hby at_194) ?_
          refine XS.iload X243.here hx rfl (hb hby at_195) rfl ?_
          exact Steps.refl _)
        obtain ⟨cl246, Ar246, q246, S246, Nn246, Ha246, G246⟩ := id V243
        obtain ⟨T246, h246, X246, e246, W246, st246⟩ := stI X243 hx hZ35 e243 Ar246 (j := (2 : Int32)) (inb_of S246 ⟨by decide, by decide⟩) (g := (mkF m 197 #[.val (.int p0), .val (.int p1), .val (.int p2), .val (.int p3), .val (.int p4), .val (.int p5), .val (.int k3), .val (.ref pk), .val (.int (4 : Int32)), .val (.int ix), .val (.ref x26), .val (.ref x29), .val (.ref x32), .val (.ref x35), .val (.ref b222), .unset, .unset, .unset, .unset, .unset] [(.int p4), (.int (2 : Int32)), (.ref b237), (.ref b237)])) rfl rfl (hb hby at_197)
        have V246 : Arv Z h246 b237 k237 .int (4 : Int32) [(.int p2), (.int p3), (.int p4), (.int (0 : Int32))] (.int (0 : Int32)) := Arv.set Ar246 q246 S246 Nn246 Ha246 G246 rfl W246 2 rfl (Nat.le_of_ble_eq_true rfl)
        have c247 : Steps p.tables e below S0 (T246.setTop (mkF m 198 #[.val (.int p0), .val (.int p1), .val (.int p2), .val (.int p3), .val (.int p4), .val (.int p5), .val (.int k3), .val (.ref pk), .val (.int (4 : Int32)), .val (.int ix), .val (.ref x26), .val (.ref x29), .val (.ref x32), .val (.ref x35), .val (.ref b222), .unset, .unset, .unset, .unset, .unset] [(.ref b237)])) := c245.trans (st246 _ (Steps.refl _))
        have N246 := Fr.snoc X246 N243 (Nat.le_trans Z0 (Nat.le_trans K234.1 (Nat.le_of_eq g237.symm)))
        have z246 : n0 ≤ h246.size := Nat.le_trans z243 (Keep.of_wr W246).1
        have K246 := K243.wr W246 (Or.inr (Nat.le_trans K234.1 (Nat.le_of_eq g237.symm)))
        have r246 : CHr Z EL T35.vm h243 T35.vm h246 := CHr.wr W246 (Safe.arv hZ35.alike V243 (by decide)) R243.1
        have R246 := R243.trans r246
        have c248 : Steps p.tables e below S0 (T246.setTop (mkF m 202 #[.val (.int p0), .val (.int p1), .val (.int p2), .val (.int p3), .val (.int p4), .val (.int p5), .val (.int k3), .val (.ref pk), .val (.int (4 : Int32)), .val (.int ix), .val (.ref x26), .val (.ref x29), .val (.ref x32), .val (.ref x35), .val (.ref b222), .unset, .unset, .unset, .unset, .unset] [(.int p5), (.int (3 : Int32)), (.ref b237), (.ref b237)])) := c247.trans (by
          show Steps p.tables e below (T246.setTop (mkF m 198 #[.val (.int p0), .val (.int p1), .val (.int p2), .val (.int p3), .val (.int p4), .val (.int p5), .val (.int k3), .val (.ref pk), .val (.int (4 : Int32)), .val (.int ix), .val (.ref x26), .val (.ref x29), .val (.ref x32), .val (.ref x35), .val (.ref b222), .unset, .unset, .unset, .unset, .unset] [(.ref b237)])) _
          refine XS.dup X246.here hx rfl (hb hby at_198) rfl rfl ?_
          refine XS.iconst X246.here hx rfl (hb hby at_199) ?_
          refine XS.iload X246.here hx rfl (hb hby at_200) rfl ?_
          exact Steps.refl _)
        obtain ⟨cl249, Ar249, q249, S249, Nn249, Ha249, G249⟩ := id V246
        obtain ⟨T249, h249, X249, e249, W249, st249⟩ := stI X246 hx hZ35 e246 Ar249 (j := (3 : Int32)) (inb_of S249 ⟨by decide, by decide⟩) (g := (mkF m 202 #[.val (.int p0), .val (.int p1), .val (.int p2), .val (.int p3), .val (.int p4), .val (.int p5), .val (.int k3), .val (.ref pk), .val (.int (4 : Int32)), .val (.int ix), .val (.ref x26), .val (.ref x29), .val (.ref x32), .val (.ref x35), .val (.ref b222), .unset, .unset, .unset, .unset, .unset] [(.int p5), (.int (3 : Int32)), (.ref b237), (.ref b237)])) rfl rfl (hb hby at_202)
        have V249 : Arv Z h249 b237 k237 .int (4 : Int32) [(.int p2), (.int p3), (.int p4), (.int p5)] (.int (0 : Int32)) := Arv.set Ar249 q249 S249 Nn249 Ha249 G249 rfl W249 3 rfl (Nat.le_of_ble_eq_true rfl)
        have c250 : Steps p.tables e below S0 (T249.setTop (mkF m 203 #[.val (.int p0), .val (.int p1), .val (.int p2), .val (.int p3), .val (.int p4), .val (.int p5), .val (.int k3), .val (.ref pk), .val (.int (4 : Int32)), .val (.int ix), .val (.ref x26), .val (.ref x29), .val (.ref x32), .val (.ref x35), .val (.ref b222), .unset, .unset, .unset, .unset, .unset] [(.ref b237)])) := c248.trans (st249 _ (Steps.refl _))
        have N249 := Fr.snoc X249 N246 (Nat.le_trans Z0 (Nat.le_trans K234.1 (Nat.le_of_eq g237.symm)))
        have z249 : n0 ≤ h249.size := Nat.le_trans z246 (Keep.of_wr W249).1
        have K249 := K246.wr W249 (Or.inr (Nat.le_trans K234.1 (Nat.le_of_eq g237.symm)))
        have r249 : CHr Z EL T35.vm h246 T35.vm h249 := CHr.wr W249 (Safe.arv hZ35.alike V246 (by decide)) R246.1
        have R249 := R246.trans r249
        have c251 : Steps p.tables e below S0 (T249.setTop (mkF m 205 #[.val (.int p0), .val (.int p1), .val (.int p2), .val (.int p3), .val (.int p4), .val (.int p5), .val (.int k3), .val (.ref pk), .val (.int (4 : Int32)), .val (.int ix), .val (.ref x26), .val (.ref x29), .val (.ref x32), .val (.ref x35), .val (.ref b222), .val (.ref b237), .unset, .unset, .unset, .unset] [])) := c250.trans (by
          show Steps p.tables e below (T249.setTop (mkF m 203 #[.val (.int p0), .val (.int p1), .val (.int p2), .val (.int p3), .val (.int p4), .val (.int p5), .val (.int k3), .val (.ref pk), .val (.int (4 : Int32)), .val (.int ix), .val (.ref x26), .val (.ref x29), .val (.ref x32), .val (.ref x35), .val (.ref b222), .unset, .unset, .unset, .unset, .unset] [(.ref b237)])) _
          refine XS.astore X249.here hx rfl (hb hby at_203) rfl rfl (l' := #[.val (.int p0), .val (.int p1), .val (.int p2), .val (.int p3), .val (.int p4), .val (.int p5), .val (.int k3), .val (.ref pk), .val (.int (4 : Int32)), .val (.int ix), .val (.ref x26), .val (.ref x29), .val (.ref x32), .val (.ref x35), .val (.ref b222), .val (.ref b237), .unset, .unset, .unset, .unset]) rfl ?_
          exact Steps.refl _)
        rcases hix3 with ei | ei | ei | ei
        · rw [ei] at c251
          have c252 : Steps p.tables e below S0 (T249.setTop (mkF m 209 #[.val (.int p0), .val (.int p1), .val (.int p2), .val (.int p3), .val (.int p4), .val (.int p5), .val (.int k3), .val (.ref pk), .val (.int (4 : Int32)), .val (.int (0 : Int32)), .val (.ref x26), .val (.ref x29), .val (.ref x32), .val (.ref x35), .val (.ref b222), .val (.ref b237), .unset, .unset, .unset, .unset] [(.int (0 : Int32)), (.ref b237)])) := c251.trans (by
            show Steps p.tables e below (T249.setTop (mkF m 205 #[.val (.int p0), .val (.int p1), .val (.int p2), .val (.int p3), .val (.int p4), .val (.int p5), .val (.int k3), .val (.ref pk), .val (.int (4 : Int32)), .val (.int (0 : Int32)), .val (.ref x26), .val (.ref x29), .val (.ref x32), .val (.ref x35), .val (.ref b222), .val (.ref b237), .unset, .unset, .unset, .unset] [])) _
            refine XS.aload X249.here hx rfl (hb hby at_205) rfl rfl ?_
            refine XS.iload X249.here hx rfl (hb hby at_207) rfl ?_
            exact Steps.refl _)
          obtain ⟨cl253, Ar253, -, S253, -, Ha253, -⟩ := id V249
          have c254 : Steps p.tables e below S0 (T249.setTop (mkF m 212 #[.val (.int p0), .val (.int p1), .val (.int p2), .val (.int p3), .val (.int p4), .val (.int p5), .val (.int k3), .val (.ref pk), .val (.int (4 : Int32)), .val (.int (0 : Int32)), .val (.ref x26), .val (.ref x29), .val (.ref x32), .val (.ref x35), .val (.ref b222), .val (.ref b237), .unset, .unset, .unset, .unset] [(.int (p2 &&& (3 : Int32)))])) := c252.trans (by
            show Steps p.tables e below (T249.setTop (mkF m 209 #[.val (.int p0), .val (.int p1), .val (.int p2), .val (.int p3), .val (.int p4), .val (.int p5), .val (.int k3), .val (.ref pk), .val (.int (4 : Int32)), .val (.int (0 : Int32)), .val (.ref x26), .val (.ref x29), .val (.ref x32), .val (.ref x35), .val (.ref b222), .val (.ref b237), .unset, .unset, .unset, .unset] [(.int (0 : Int32)), (.ref b237)])) _
            refine X249.iaload hx (j := (0 : Int32)) (v := (.int p2)) (by rw [e249]; exact Ar253.1) (State.isArrayOf_alike hZ35.alike Ar253.2.1) Ar253.2.2 (inb_of S253 ⟨by decide, by decide⟩) (Ha253.at (inb_of S253 ⟨by decide, by decide⟩) rfl) (g := (mkF m 209 #[.val (.int p0), .val (.int p1), .val (.int p2), .val (.int p3), .val (.int p4), .val (.int p5), .val (.int k3), .val (.ref pk), .val (.int (4 : Int32)), .val (.int (0 : Int32)), .val (.ref x26), .val (.ref x29), .val (.ref x32), .val (.ref x35), .val (.ref b222), .val (.ref b237), .unset, .unset, .unset, .unset] [(.int (0 : Int32)), (.ref b237)])) rfl rfl (hb hby at_209) _ ?_
            refine XS.iconst X249.here hx rfl (hb hby at_210) ?_
            refine XS.iand X249.here hx rfl (hb hby at_211) rfl ?_
            exact Steps.refl _)
          obtain ⟨he, hhe, c257⟩ : ∃ (he : Int32), he = (if (p2 &&& (3 : Int32)) = (0 : Int32) then (1 : Int32) else (0 : Int32)) ∧ Steps p.tables e below S0 (T249.setTop (mkF m 220 #[.val (.int p0), .val (.int p1), .val (.int p2), .val (.int p3), .val (.int p4), .val (.int p5), .val (.int k3), .val (.ref pk), .val (.int (4 : Int32)), .val (.int (0 : Int32)), .val (.ref x26), .val (.ref x29), .val (.ref x32), .val (.ref x35), .val (.ref b222), .val (.ref b237), .unset, .unset, .unset, .unset] [(.int he)])) := by
            by_cases hq255 : (p2 &&& (3 : Int32)) = (0 : Int32)
            · exact ⟨_, (by rw [if_pos hq255]), c254.trans (by
                show Steps p.tables e below (T249.setTop (mkF m 212 #[.val (.int p0), .val (.int p1), .val (.int p2), .val (.int p3), .val (.int p4), .val (.int p5), .val (.int k3), .val (.ref pk), .val (.int (4 : Int32)), .val (.int (0 : Int32)), .val (.ref x26), .val (.ref x29), .val (.ref x32), .val (.ref x35), .val (.ref b222), .val (.ref b237), .unset, .unset, .unset, .unset] [(.int (p2 &&& (3 : Int32)))])) _
                refine XS.ifNo X249.here hx rfl (hb hby at_212) rfl ((if0 _ _).trans (teq hq255).2) ?_
                refine XS.iconst X249.here hx rfl (hb hby at_215) ?_
                refine XS.goto X249.here hx rfl (pc0 := 216) (pc' := 220) rfl (hb hby at_216) (by decide) (by decide) ?_
                exact Steps.refl _)⟩
            · exact ⟨_, (by rw [if_neg hq255]), c254.trans (by
                show Steps p.tables e below (T249.setTop (mkF m 212 #[.val (.int p0), .val (.int p1), .val (.int p2), .val (.int p3), .val (.int p4), .val (.int p5), .val (.int k3), .val (.ref pk), .val (.int (4 : Int32)), .val (.int (0 : Int32)), .val (.ref x26), .val (.ref x29), .val (.ref x32), .val (.ref x35), .val (.ref b222), .val (.ref b237), .unset, .unset, .unset, .unset] [(.int (p2 &&& (3 : Int32)))])) _
                refine XS.ifYes X249.here hx rfl (pc0 := 212) (pc' := 219) rfl (hb hby at_212) rfl ((if0 _ _).trans (feq hq255).2) (by decide) (by decide) ?_
                refine XS.iconst X249.here hx rfl (hb hby at_219) ?_
                exact Steps.refl _)⟩
          have c258 : Steps p.tables e below S0 (T249.setTop (mkF m 231 #[.val (.int p0), .val (.int p1), .val (.int p2), .val (.int p3), .val (.int p4), .val (.int p5), .val (.int k3), .val (.ref pk), .val (.int (4 : Int32)), .val (.int (0 : Int32)), .val (.ref x26), .val (.ref x29), .val (.ref x32), .val (.ref x35), .val (.ref b222), .val (.ref b237), .val (.int he), .val (.int (4 : Int32)), .unset, .unset] [(.int k3)])) := c257.trans (by
            show Steps p.tables e below (T249.setTop (mkF m 220 #[.val (.int p0), .val (.int p1), .val (.int p2), .val (.int p3), .val (.int p4), .val (.int p5), .val (.int k3), .val (.ref pk), .val (.int (4 : Int32)), .val (.int (0 : Int32)), .val (.ref x26), .val (.ref x29), .val (.ref x32), .val (.ref x35), .val (.ref b222), .val (.ref b237), .unset, .unset, .unset, .unset] [(.int he)])) _
            refine XS.istore X249.here hx rfl (hb hby at_220) rfl (l' := #[.val (.int p0), .val (.int p1), .val (.int p2), .val (.int p3), .val (.int p4), .val (.int p5), .val (.int k3), .val (.ref pk), .val (.int (4 : Int32)), .val (.int (0 : Int32)), .val (.ref x26), .val (.ref x29), .val (.ref x32), .val (.ref x35), .val (.ref b222), .val (.ref b237), .val (.int he), .unset, .unset, .unset]) rfl ?_
            refine XS.iload X249.here hx rfl (hb hby at_222) rfl ?_
            refine XS.iload X249.here hx rfl (hb hby at_224) rfl ?_
            refine XS.isub X249.here hx rfl (hb hby at_226) rfl ?_
            show Steps p.tables e below (T249.setTop (mkF m 227 #[.val (.int p0), .val (.int p1), .val (.int p2), .val (.int p3), .val (.int p4), .val (.int p5), .val (.int k3), .val (.ref pk), .val (.int (4 : Int32)), .val (.int (0 : Int32)), .val (.ref x26), .val (.ref x29), .val (.ref x32), .val (.ref x35), .val (.ref b222), .val (.ref b237), .val (.int he), .unset, .unset, .unset] [(.int (4 : Int32))])) _
            refine XS.istore X249.here hx rfl (hb hby at_227) rfl (l' := #[.val (.int p0), .val (.int p1), .val (.int p2), .val (.int p3), .val (.int p4), .val (.int p5), .val (.int k3), .val (.ref pk), .val (.int (4 : Int32)), .val (.int (0 : Int32)), .val (.ref x26), .val (.ref x29), .val (.ref x32), .val (.ref x35), .val (.ref b222), .val (.ref b237), .val (.int he), .val (.int (4 : Int32)), .unset, .unset]) rfl ?_
            refine XS.iload X249.here hx rfl (hb hby at_229) rfl ?_
            exact Steps.refl _)
          obtain ⟨ex, hex, c263⟩ : ∃ (ex : Int32), ex = (if k3 = (0 : Int32) then (if he = (0 : Int32) then (1 : Int32) else (0 : Int32)) else (4 : Int32)) ∧ Steps p.tables e below S0 (T249.setTop (mkF m 281 #[.val (.int p0), .val (.int p1), .val (.int p2), .val (.int p3), .val (.int p4), .val (.int p5), .val (.int k3), .val (.ref pk), .val (.int (4 : Int32)), .val (.int (0 : Int32)), .val (.ref x26), .val (.ref x29), .val (.ref x32), .val (.ref x35), .val (.ref b222), .val (.ref b237), .val (.int he), .val (.int (4 : Int32)), .val (.int ex), .unset] [])) := by
            by_cases hq259 : k3 = (0 : Int32)
            · by_cases hq260 : he = (0 : Int32)
              · exact ⟨_, (by rw [if_pos hq259, if_pos hq260]), c258.trans (by
                  show Steps p.tables e below (T249.setTop (mkF m 231 #[.val (.int p0), .val (.int p1), .val (.int p2), .val (.int p3), .val (.int p4), .val (.int p5), .val (.int k3), .val (.ref pk), .val (.int (4 : Int32)), .val (.int (0 : Int32)), .val (.ref x26), .val (.ref x29), .val (.ref x32), .val (.ref x35), .val (.ref b222), .val (.ref b237), .val (.int he), .val (.int (4 : Int32)), .unset, .unset] [(.int k3)])) _
                  refine XS.ifNo X249.here hx rfl (hb hby at_231) rfl ((if0 _ _).trans (teq hq259).2) ?_
                  refine XS.iload X249.here hx rfl (hb hby at_234) rfl ?_
                  refine XS.ifYes X249.here hx rfl (pc0 := 236) (pc' := 243) rfl (hb hby at_236) rfl ((if0 _ _).trans (teq hq260).1) (by decide) (by decide) ?_
                  refine XS.iconst X249.here hx rfl (hb hby at_243) ?_
                  show Steps p.tables e below (T249.setTop (mkF m 244 #[.val (.int p0), .val (.int p1), .val (.int p2), .val (.int p3), .val (.int p4), .val (.int p5), .val (.int k3), .val (.ref pk), .val (.int (4 : Int32)), .val (.int (0 : Int32)), .val (.ref x26), .val (.ref x29), .val (.ref x32), .val (.ref x35), .val (.ref b222), .val (.ref b237), .val (.int he), .val (.int (4 : Int32)), .unset, .unset] [(.int (1 : Int32))])) _
                  refine XS.istore X249.here hx rfl (hb hby at_244) rfl (l' := #[.val (.int p0), .val (.int p1), .val (.int p2), .val (.int p3), .val (.int p4), .val (.int p5), .val (.int k3), .val (.ref pk), .val (.int (4 : Int32)), .val (.int (0 : Int32)), .val (.ref x26), .val (.ref x29), .val (.ref x32), .val (.ref x35), .val (.ref b222), .val (.ref b237), .val (.int he), .val (.int (4 : Int32)), .val (.int (1 : Int32)), .unset]) rfl ?_
                  refine XS.goto X249.here hx rfl (pc0 := 246) (pc' := 281) rfl (hb hby at_246) (by decide) (by decide) ?_
                  exact Steps.refl _)⟩
              · exact ⟨_, (by rw [if_pos hq259, if_neg hq260]), c258.trans (by
                  show Steps p.tables e below (T249.setTop (mkF m 231 #[.val (.int p0), .val (.int p1), .val (.int p2), .val (.int p3), .val (.int p4), .val (.int p5), .val (.int k3), .val (.ref pk), .val (.int (4 : Int32)), .val (.int (0 : Int32)), .val (.ref x26), .val (.ref x29), .val (.ref x32), .val (.ref x35), .val (.ref b222), .val (.ref b237), .val (.int he), .val (.int (4 : Int32)), .unset, .unset] [(.int k3)])) _
                  refine XS.ifNo X249.here hx rfl (hb hby at_231) rfl ((if0 _ _).trans (teq hq259).2) ?_
                  refine XS.iload X249.here hx rfl (hb hby at_234) rfl ?_
                  refine XS.ifNo X249.here hx rfl (hb hby at_236) rfl ((if0 _ _).trans (feq hq260).1) ?_
                  refine XS.iconst X249.here hx rfl (hb hby at_239) ?_
                  show Steps p.tables e below (T249.setTop (mkF m 240 #[.val (.int p0), .val (.int p1), .val (.int p2), .val (.int p3), .val (.int p4), .val (.int p5), .val (.int k3), .val (.ref pk), .val (.int (4 : Int32)), .val (.int (0 : Int32)), .val (.ref x26), .val (.ref x29), .val (.ref x32), .val (.ref x35), .val (.ref b222), .val (.ref b237), .val (.int he), .val (.int (4 : Int32)), .unset, .unset] [(.int (0 : Int32))])) _
                  refine XS.goto X249.here hx rfl (pc0 := 240) (pc' := 244) rfl (hb hby at_240) (by decide) (by decide) ?_
                  refine XS.istore X249.here hx rfl (hb hby at_244) rfl (l' := #[.val (.int p0), .val (.int p1), .val (.int p2), .val (.int p3), .val (.int p4), .val (.int p5), .val (.int k3), .val (.ref pk), .val (.int (4 : Int32)), .val (.int (0 : Int32)), .val (.ref x26), .val (.ref x29), .val (.ref x32), .val (.ref x35), .val (.ref b222), .val (.ref b237), .val (.int he), .val (.int (4 : Int32)), .val (.int (0 : Int32)), .unset]) rfl ?_
                  refine XS.goto X249.here hx rfl (pc0 := 246) (pc' := 281) rfl (hb hby at_246) (by decide) (by decide) ?_
                  exact Steps.refl _)⟩
            · by_cases hq261 : k3 = (1 : Int32)
              · exact ⟨_, (by rw [if_neg hq259]), c258.trans (by
                  show Steps p.tables e below (T249.setTop (mkF m 231 #[.val (.int p0), .val (.int p1), .val (.int p2), .val (.int p3), .val (.int p4), .val (.int p5), .val (.int k3), .val (.ref pk), .val (.int (4 : Int32)), .val (.int (0 : Int32)), .val (.ref x26), .val (.ref x29), .val (.ref x32), .val (.ref x35), .val (.ref b222), .val (.ref b237), .val (.int he), .val (.int (4 : Int32)), .unset, .unset] [(.int k3)])) _
                  refine XS.ifYes X249.here hx rfl (pc0 := 231) (pc' := 249) rfl (hb hby at_231) rfl ((if0 _ _).trans (feq hq259).2) (by decide) (by decide) ?_
                  refine XS.iload X249.here hx rfl (hb hby at_249) rfl ?_
                  refine XS.iconst X249.here hx rfl (hb hby at_251) ?_
                  refine XS.icmpNo X249.here hx rfl (hb hby at_252) rfl (teq hq261).2 ?_
                  show Steps p.tables e below (T249.setTop (mkF m 255 #[.val (.int p0), .val (.int p1), .val (.int p2), .val (.int p3), .val (.int p4), .val (.int p5), .val (.int k3), .val (.ref pk), .val (.int (4 : Int32)), .val (.int (0 : Int32)), .val (.ref x26), .val (.ref x29), .val (.ref x32), .val (.ref x35), .val (.ref b222), .val (.ref b237), .val (.int he), .val (.int (4 : Int32)), .unset, .unset] [])) _
                  refine XS.iload X249.here hx rfl (hb hby at_255) rfl ?_
                  refine XS.iconst X249.here hx rfl (hb hby at_257) ?_
                  refine XS.icmpYes X249.here hx rfl (pc0 := 258) (pc' := 270) rfl (hb hby at_258) rfl (feq (by decide : ¬ ((4 : Int32) = (1 : Int32)))).2 (by decide) (by decide) ?_
                  refine XS.iload X249.here hx rfl (hb hby at_270) rfl ?_
                  show Steps p.tables e below (T249.setTop (mkF m 272 #[.val (.int p0), .val (.int p1), .val (.int p2), .val (.int p3), .val (.int p4), .val (.int p5), .val (.int k3), .val (.ref pk), .val (.int (4 : Int32)), .val (.int (0 : Int32)), .val (.ref x26), .val (.ref x29), .val (.ref x32), .val (.ref x35), .val (.ref b222), .val (.ref b237), .val (.int he), .val (.int (4 : Int32)), .unset, .unset] [(.int (4 : Int32))])) _
                  refine XS.istore X249.here hx rfl (hb hby at_272) rfl (l' := #[.val (.int p0), .val (.int p1), .val (.int p2), .val (.int p3), .val (.int p4), .val (.int p5), .val (.int k3), .val (.ref pk), .val (.int (4 : Int32)), .val (.int (0 : Int32)), .val (.ref x26), .val (.ref x29), .val (.ref x32), .val (.ref x35), .val (.ref b222), .val (.ref b237), .val (.int he), .val (.int (4 : Int32)), .val (.int (4 : Int32)), .unset]) rfl ?_
                  refine XS.goto X249.here hx rfl (pc0 := 274) (pc' := 281) rfl (hb hby at_274) (by decide) (by decide) ?_
                  exact Steps.refl _)⟩
              · exact ⟨_, (by rw [if_neg hq259]), c258.trans (by
                  show Steps p.tables e below (T249.setTop (mkF m 231 #[.val (.int p0), .val (.int p1), .val (.int p2), .val (.int p3), .val (.int p4), .val (.int p5), .val (.int k3), .val (.ref pk), .val (.int (4 : Int32)), .val (.int (0 : Int32)), .val (.ref x26), .val (.ref x29), .val (.ref x32), .val (.ref x35), .val (.ref b222), .val (.ref b237), .val (.int he), .val (.int (4 : Int32)), .unset, .unset] [(.int k3)])) _
                  refine XS.ifYes X249.here hx rfl (pc0 := 231) (pc' := 249) rfl (hb hby at_231) rfl ((if0 _ _).trans (feq hq259).2) (by decide) (by decide) ?_
                  refine XS.iload X249.here hx rfl (hb hby at_249) rfl ?_
                  refine XS.iconst X249.here hx rfl (hb hby at_251) ?_
                  refine XS.icmpYes X249.here hx rfl (pc0 := 252) (pc' := 277) rfl (hb hby at_252) rfl (feq hq261).2 (by decide) (by decide) ?_
                  show Steps p.tables e below (T249.setTop (mkF m 277 #[.val (.int p0), .val (.int p1), .val (.int p2), .val (.int p3), .val (.int p4), .val (.int p5), .val (.int k3), .val (.ref pk), .val (.int (4 : Int32)), .val (.int (0 : Int32)), .val (.ref x26), .val (.ref x29), .val (.ref x32), .val (.ref x35), .val (.ref b222), .val (.ref b237), .val (.int he), .val (.int (4 : Int32)), .unset, .unset] [])) _
                  refine XS.iload X249.here hx rfl (hb hby at_277) rfl ?_
                  refine XS.istore X249.here hx rfl (hb hby at_279) rfl (l' := #[.val (.int p0), .val (.int p1), .val (.int p2), .val (.int p3), .val (.int p4), .val (.int p5), .val (.int k3), .val (.ref pk), .val (.int (4 : Int32)), .val (.int (0 : Int32)), .val (.ref x26), .val (.ref x29), .val (.ref x32), .val (.ref x35), .val (.ref b222), .val (.ref b237), .val (.int he), .val (.int (4 : Int32)), .val (.int (4 : Int32)), .unset]) rfl ?_
                  exact Steps.refl _)⟩
          have c264 : Steps p.tables e below S0 (T249.setTop (mkF m 287 #[.val (.int p0), .val (.int p1), .val (.int p2), .val (.int p3), .val (.int p4), .val (.int p5), .val (.int k3), .val (.ref pk), .val (.int (4 : Int32)), .val (.int (0 : Int32)), .val (.ref x26), .val (.ref x29), .val (.ref x32), .val (.ref x35), .val (.ref b222), .val (.ref b237), .val (.int he), .val (.int (4 : Int32)), .val (.int ex), .unset] [(.int (0 : Int32)), (.ref b222), (.ref pk)])) := c263.trans (by
            show Steps p.tables e below (T249.setTop (mkF m 281 #[.val (.int p0), .val (.int p1), .val (.int p2), .val (.int p3), .val (.int p4), .val (.int p5), .val (.int k3), .val (.ref pk), .val (.int (4 : Int32)), .val (.int (0 : Int32)), .val (.ref x26), .val (.ref x29), .val (.ref x32), .val (.ref x35), .val (.ref b222), .val (.ref b237), .val (.int he), .val (.int (4 : Int32)), .val (.int ex), .unset] [])) _
            refine XS.aload X249.here hx rfl (hb hby at_281) rfl rfl ?_
            refine XS.aload X249.here hx rfl (hb hby at_283) rfl rfl ?_
            refine XS.iload X249.here hx rfl (hb hby at_285) rfl ?_
            exact Steps.refl _)
          obtain ⟨cq265, kq265, q265a, q265b, q265c⟩ := isOf hZ35 e249 (((((((((((((((xpk.ext X00.2).keep Kq26).keep Kq29).keep Kq32).keep Kq35).ext E222).wr W225).wr W228).wr W231).wr W234).ext E237).wr W240).wr W243).wr W246).wr W249)
          obtain ⟨_, _, ⟨T265, L265, kk265, nn265⟩, -, X265, ⟨Lc265, hQ265, l265, y265, z265⟩, st265⟩ := X249.virtualBack hx (y := (⟨"com/example/libroute/libroute/pattern/ParameterKind", "span", "([Ljava/lang/String;I)I"⟩ : MethodName)) (z := (⟨"com/example/libroute/libroute/pattern/ParameterKind", "span", "([Ljava/lang/String;I)I"⟩ : MethodName)) hown35 (mvT hZ35 (hw _ (List.mem_of_getElem? (i := 57) rfl))) (mvT hZ35 (hw _ (List.mem_of_getElem? (i := 58) rfl))) (notFace_of_selects (args := #[]) (mvT hZ35 (hw _ (List.mem_of_getElem? (i := 60) rfl)))) (mvT hZ35 (hw _ (List.mem_of_getElem? (i := 60) rfl))) (mvT hZ35 (hw _ (List.mem_of_getElem? (i := 59) rfl))) (by decide) (backOf (W := 0) (rmSp l Z a0 hw [] pk b222 rr te (4 : Int32) (0 : Int32) _ [(.ref x26), (.ref x29), (.ref x32), (.ref x35)] x26 t26 kb26 cs26 G1 h249 n0 z249 (((((((((((((((Fp.ext X00.2).keep Kq26 nin0).keep Kq29 nin0).keep Kq32 nin0).keep Kq35 nin0).ext E222).other W225 (Or.inl (Nat.ne_of_lt (Nat.lt_of_lt_of_le (Nat.lt_of_lt_of_le (xpk.ext X00.2).lt (Nat.le_trans (Nat.le_trans (Nat.le_trans Kq26.1 Kq29.1) Kq32.1) Kq35.1)) (Nat.le_of_eq g222.symm))))).other W228 (Or.inl (Nat.ne_of_lt (Nat.lt_of_lt_of_le (Nat.lt_of_lt_of_le (xpk.ext X00.2).lt (Nat.le_trans (Nat.le_trans (Nat.le_trans Kq26.1 Kq29.1) Kq32.1) Kq35.1)) (Nat.le_of_eq g222.symm))))).other W231 (Or.inl (Nat.ne_of_lt (Nat.lt_of_lt_of_le (Nat.lt_of_lt_of_le (xpk.ext X00.2).lt (Nat.le_trans (Nat.le_trans (Nat.le_trans Kq26.1 Kq29.1) Kq32.1) Kq35.1)) (Nat.le_of_eq g222.symm))))).other W234 (Or.inl (Nat.ne_of_lt (Nat.lt_of_lt_of_le (Nat.lt_of_lt_of_le (xpk.ext X00.2).lt (Nat.le_trans (Nat.le_trans (Nat.le_trans Kq26.1 Kq29.1) Kq32.1) Kq35.1)) (Nat.le_of_eq g222.symm))))).ext E237).other W240 (Or.inl (Nat.ne_of_lt (Nat.lt_of_lt_of_le (Nat.lt_of_lt_of_le (xpk.ext X00.2).lt (Nat.le_trans (Nat.le_trans (Nat.le_trans (Nat.le_trans (Nat.le_trans (Nat.le_trans (Nat.le_trans (Nat.le_trans Kq26.1 Kq29.1) Kq32.1) Kq35.1) E222.1) (Keep.of_wr W225).1) (Keep.of_wr W228).1) (Keep.of_wr W231).1) (Keep.of_wr W234).1)) (Nat.le_of_eq g237.symm))))).other W243 (Or.inl (Nat.ne_of_lt (Nat.lt_of_lt_of_le (Nat.lt_of_lt_of_le (xpk.ext X00.2).lt (Nat.le_trans (Nat.le_trans (Nat.le_trans (Nat.le_trans (Nat.le_trans (Nat.le_trans (Nat.le_trans (Nat.le_trans Kq26.1 Kq29.1) Kq32.1) Kq35.1) E222.1) (Keep.of_wr W225).1) (Keep.of_wr W228).1) (Keep.of_wr W231).1) (Keep.of_wr W234).1)) (Nat.le_of_eq g237.symm))))).other W246 (Or.inl (Nat.ne_of_lt (Nat.lt_of_lt_of_le (Nat.lt_of_lt_of_le (xpk.ext X00.2).lt (Nat.le_trans (Nat.le_trans (Nat.le_trans (Nat.le_trans (Nat.le_trans (Nat.le_trans (Nat.le_trans (Nat.le_trans Kq26.1 Kq29.1) Kq32.1) Kq35.1) E222.1) (Keep.of_wr W225).1) (Keep.of_wr W228).1) (Keep.of_wr W231).1) (Keep.of_wr W234).1)) (Nat.le_of_eq g237.symm))))).other W249 (Or.inl (Nat.ne_of_lt (Nat.lt_of_lt_of_le (Nat.lt_of_lt_of_le (xpk.ext X00.2).lt (Nat.le_trans (Nat.le_trans (Nat.le_trans (Nat.le_trans (Nat.le_trans (Nat.le_trans (Nat.le_trans (Nat.le_trans Kq26.1 Kq29.1) Kq32.1) Kq35.1) E222.1) (Keep.of_wr W225).1) (Keep.of_wr W228).1) (Keep.of_wr W231).1) (Keep.of_wr W234).1)) (Nat.le_of_eq g237.symm))))) (((((((((((((((Gp.ext X00.2).keep Kq26 nin0).keep Kq29 nin0).keep Kq32 nin0).keep Kq35 nin0).ext E222).other W225 (Or.inl (Nat.ne_of_lt (Nat.lt_of_lt_of_le (Nat.lt_of_lt_of_le (xpk.ext X00.2).lt (Nat.le_trans (Nat.le_trans (Nat.le_trans Kq26.1 Kq29.1) Kq32.1) Kq35.1)) (Nat.le_of_eq g222.symm))))).other W228 (Or.inl (Nat.ne_of_lt (Nat.lt_of_lt_of_le (Nat.lt_of_lt_of_le (xpk.ext X00.2).lt (Nat.le_trans (Nat.le_trans (Nat.le_trans Kq26.1 Kq29.1) Kq32.1) Kq35.1)) (Nat.le_of_eq g222.symm))))).other W231 (Or.inl (Nat.ne_of_lt (Nat.lt_of_lt_of_le (Nat.lt_of_lt_of_le (xpk.ext X00.2).lt (Nat.le_trans (Nat.le_trans (Nat.le_trans Kq26.1 Kq29.1) Kq32.1) Kq35.1)) (Nat.le_of_eq g222.symm))))).other W234 (Or.inl (Nat.ne_of_lt (Nat.lt_of_lt_of_le (Nat.lt_of_lt_of_le (xpk.ext X00.2).lt (Nat.le_trans (Nat.le_trans (Nat.le_trans Kq26.1 Kq29.1) Kq32.1) Kq35.1)) (Nat.le_of_eq g222.symm))))).ext E237).other W240 (Or.inl (Nat.ne_of_lt (Nat.lt_of_lt_of_le (Nat.lt_of_lt_of_le (xpk.ext X00.2).lt (Nat.le_trans (Nat.le_trans (Nat.le_trans (Nat.le_trans (Nat.le_trans (Nat.le_trans (Nat.le_trans (Nat.le_trans Kq26.1 Kq29.1) Kq32.1) Kq35.1) E222.1) (Keep.of_wr W225).1) (Keep.of_wr W228).1) (Keep.of_wr W231).1) (Keep.of_wr W234).1)) (Nat.le_of_eq g237.symm))))).other W243 (Or.inl (Nat.ne_of_lt (Nat.lt_of_lt_of_le (Nat.lt_of_lt_of_le (xpk.ext X00.2).lt (Nat.le_trans (Nat.le_trans (Nat.le_trans (Nat.le_trans (Nat.le_trans (Nat.le_trans (Nat.le_trans (Nat.le_trans Kq26.1 Kq29.1) Kq32.1) Kq35.1) E222.1) (Keep.of_wr W225).1) (Keep.of_wr W228).1) (Keep.of_wr W231).1) (Keep.of_wr W234).1)) (Nat.le_of_eq g237.symm))))).other W246 (Or.inl (Nat.ne_of_lt (Nat.lt_of_lt_of_le (Nat.lt_of_lt_of_le (xpk.ext X00.2).lt (Nat.le_trans (Nat.le_trans (Nat.le_trans (Nat.le_trans (Nat.le_trans (Nat.le_trans (Nat.le_trans (Nat.le_trans Kq26.1 Kq29.1) Kq32.1) Kq35.1) E222.1) (Keep.of_wr W225).1) (Keep.of_wr W228).1) (Keep.of_wr W231).1) (Keep.of_wr W234).1)) (Nat.le_of_eq g237.symm))))).other W249 (Or.inl (Nat.ne_of_lt (Nat.lt_of_lt_of_le (Nat.lt_of_lt_of_le (xpk.ext X00.2).lt (Nat.le_trans (Nat.le_trans (Nat.le_trans (Nat.le_trans (Nat.le_trans (Nat.le_trans (Nat.le_trans (Nat.le_trans Kq26.1 Kq29.1) Kq32.1) Kq35.1) E222.1) (Keep.of_wr W225).1) (Keep.of_wr W228).1) (Keep.of_wr W231).1) (Keep.of_wr W234).1)) (Nat.le_of_eq g237.symm))))) (((((V234.ext E237).other W240 (Nat.ne_of_lt (Nat.lt_of_lt_of_le (Nat.lt_of_lt_of_le lt_b222 (Nat.le_trans (Nat.le_trans (Nat.le_trans (Keep.of_wr W225).1 (Keep.of_wr W228).1) (Keep.of_wr W231).1) (Keep.of_wr W234).1)) (Nat.le_of_eq g237.symm)))).other W243 (Nat.ne_of_lt (Nat.lt_of_lt_of_le (Nat.lt_of_lt_of_le lt_b222 (Nat.le_trans (Nat.le_trans (Nat.le_trans (Keep.of_wr W225).1 (Keep.of_wr W228).1) (Keep.of_wr W231).1) (Keep.of_wr W234).1)) (Nat.le_of_eq g237.symm)))).other W246 (Nat.ne_of_lt (Nat.lt_of_lt_of_le (Nat.lt_of_lt_of_le lt_b222 (Nat.le_trans (Nat.le_trans (Nat.le_trans (Keep.of_wr W225).1 (Keep.of_wr W228).1) (Keep.of_wr W231).1) (Keep.of_wr W234).1)) (Nat.le_of_eq g237.symm)))).other W249 (Nat.ne_of_lt (Nat.lt_of_lt_of_le (Nat.lt_of_lt_of_le lt_b222 (Nat.le_trans (Nat.le_trans (Nat.le_trans (Keep.of_wr W225).1 (Keep.of_wr W228).1) (Keep.of_wr W231).1) (Keep.of_wr W234).1)) (Nat.le_of_eq g237.symm)))) ⟨by decide, by decide⟩ rfl ⟨(((((((((((((So26.1.keep Kq29).keep Kq32).keep Kq35).ext E222).wr W225).wr W228).wr W231).wr W234).ext E237).wr W240).wr W243).wr W246).wr W249), (((((((((((((So26.2.1.keep Kq29 nin0).keep Kq32 nin0).keep Kq35 nin0).ext E222).other W225 (Or.inl (Nat.ne_of_lt (Nat.lt_of_lt_of_le (Nat.lt_of_lt_of_le lt_x26 (Nat.le_trans (Nat.le_trans Kq29.1 Kq32.1) Kq35.1)) (Nat.le_of_eq g222.symm))))).other W228 (Or.inl (Nat.ne_of_lt (Nat.lt_of_lt_of_le (Nat.lt_of_lt_of_le lt_x26 (Nat.le_trans (Nat.le_trans Kq29.1 Kq32.1) Kq35.1)) (Nat.le_of_eq g222.symm))))).other W231 (Or.inl (Nat.ne_of_lt (Nat.lt_of_lt_of_le (Nat.lt_of_lt_of_le lt_x26 (Nat.le_trans (Nat.le_trans Kq29.1 Kq32.1) Kq35.1)) (Nat.le_of_eq g222.symm))))).other W234 (Or.inl (Nat.ne_of_lt (Nat.lt_of_lt_of_le (Nat.lt_of_lt_of_le lt_x26 (Nat.le_trans (Nat.le_trans Kq29.1 Kq32.1) Kq35.1)) (Nat.le_of_eq g222.symm))))).ext E237).other W240 (Or.inl (Nat.ne_of_lt (Nat.lt_of_lt_of_le (Nat.lt_of_lt_of_le lt_x26 (Nat.le_trans (Nat.le_trans (Nat.le_trans (Nat.le_trans (Nat.le_trans (Nat.le_trans (Nat.le_trans Kq29.1 Kq32.1) Kq35.1) E222.1) (Keep.of_wr W225).1) (Keep.of_wr W228).1) (Keep.of_wr W231).1) (Keep.of_wr W234).1)) (Nat.le_of_eq g237.symm))))).other W243 (Or.inl (Nat.ne_of_lt (Nat.lt_of_lt_of_le (Nat.lt_of_lt_of_le lt_x26 (Nat.le_trans (Nat.le_trans (Nat.le_trans (Nat.le_trans (Nat.le_trans (Nat.le_trans (Nat.le_trans Kq29.1 Kq32.1) Kq35.1) E222.1) (Keep.of_wr W225).1) (Keep.of_wr W228).1) (Keep.of_wr W231).1) (Keep.of_wr W234).1)) (Nat.le_of_eq g237.symm))))).other W246 (Or.inl (Nat.ne_of_lt (Nat.lt_of_lt_of_le (Nat.lt_of_lt_of_le lt_x26 (Nat.le_trans (Nat.le_trans (Nat.le_trans (Nat.le_trans (Nat.le_trans (Nat.le_trans (Nat.le_trans Kq29.1 Kq32.1) Kq35.1) E222.1) (Keep.of_wr W225).1) (Keep.of_wr W228).1) (Keep.of_wr W231).1) (Keep.of_wr W234).1)) (Nat.le_of_eq g237.symm))))).other W249 (Or.inl (Nat.ne_of_lt (Nat.lt_of_lt_of_le (Nat.lt_of_lt_of_le lt_x26 (Nat.le_trans (Nat.le_trans (Nat.le_trans (Nat.le_trans (Nat.le_trans (Nat.le_trans (Nat.le_trans Kq29.1 Kq32.1) Kq35.1) E222.1) (Keep.of_wr W225).1) (Keep.of_wr W228).1) (Keep.of_wr W231).1) (Keep.of_wr W234).1)) (Nat.le_of_eq g237.symm))))), (((((((((((((So26.2.2.1.keep Kq29 nin0).keep Kq32 nin0).keep Kq35 nin0).ext E222).other W225 (Or.inl (Nat.ne_of_lt (Nat.lt_of_lt_of_le (Nat.lt_of_lt_of_le lt_x26 (Nat.le_trans (Nat.le_trans Kq29.1 Kq32.1) Kq35.1)) (Nat.le_of_eq g222.symm))))).other W228 (Or.inl (Nat.ne_of_lt (Nat.lt_of_lt_of_le (Nat.lt_of_lt_of_le lt_x26 (Nat.le_trans (Nat.le_trans Kq29.1 Kq32.1) Kq35.1)) (Nat.le_of_eq g222.symm))))).other W231 (Or.inl (Nat.ne_of_lt (Nat.lt_of_lt_of_le (Nat.lt_of_lt_of_le lt_x26 (Nat.le_trans (Nat.le_trans Kq29.1 Kq32.1) Kq35.1)) (Nat.le_of_eq g222.symm))))).other W234 (Or.inl (Nat.ne_of_lt (Nat.lt_of_lt_of_le (Nat.lt_of_lt_of_le lt_x26 (Nat.le_trans (Nat.le_trans Kq29.1 Kq32.1) Kq35.1)) (Nat.le_of_eq g222.symm))))).ext E237).other W240 (Or.inl (Nat.ne_of_lt (Nat.lt_of_lt_of_le (Nat.lt_of_lt_of_le lt_x26 (Nat.le_trans (Nat.le_trans (Nat.le_trans (Nat.le_trans (Nat.le_trans (Nat.le_trans (Nat.le_trans Kq29.1 Kq32.1) Kq35.1) E222.1) (Keep.of_wr W225).1) (Keep.of_wr W228).1) (Keep.of_wr W231).1) (Keep.of_wr W234).1)) (Nat.le_of_eq g237.symm))))).other W243 (Or.inl (Nat.ne_of_lt (Nat.lt_of_lt_of_le (Nat.lt_of_lt_of_le lt_x26 (Nat.le_trans (Nat.le_trans (Nat.le_trans (Nat.le_trans (Nat.le_trans (Nat.le_trans (Nat.le_trans Kq29.1 Kq32.1) Kq35.1) E222.1) (Keep.of_wr W225).1) (Keep.of_wr W228).1) (Keep.of_wr W231).1) (Keep.of_wr W234).1)) (Nat.le_of_eq g237.symm))))).other W246 (Or.inl (Nat.ne_of_lt (Nat.lt_of_lt_of_le (Nat.lt_of_lt_of_le lt_x26 (Nat.le_trans (Nat.le_trans (Nat.le_trans (Nat.le_trans (Nat.le_trans (Nat.le_trans (Nat.le_trans Kq29.1 Kq32.1) Kq35.1) E222.1) (Keep.of_wr W225).1) (Keep.of_wr W228).1) (Keep.of_wr W231).1) (Keep.of_wr W234).1)) (Nat.le_of_eq g237.symm))))).other W249 (Or.inl (Nat.ne_of_lt (Nat.lt_of_lt_of_le (Nat.lt_of_lt_of_le lt_x26 (Nat.le_trans (Nat.le_trans (Nat.le_trans (Nat.le_trans (Nat.le_trans (Nat.le_trans (Nat.le_trans Kq29.1 Kq32.1) Kq35.1) E222.1) (Keep.of_wr W225).1) (Keep.of_wr W228).1) (Keep.of_wr W231).1) (Keep.of_wr W234).1)) (Nat.le_of_eq g237.symm))))), (((((((((((((So26.2.2.2.1.keep Kq29 nin0).keep Kq32 nin0).keep Kq35 nin0).ext E222).other W225 (Nat.ne_of_lt (Nat.lt_of_lt_of_le (Nat.lt_of_lt_of_le lt_t26 (Nat.le_trans (Nat.le_trans Kq29.1 Kq32.1) Kq35.1)) (Nat.le_of_eq g222.symm)))).other W228 (Nat.ne_of_lt (Nat.lt_of_lt_of_le (Nat.lt_of_lt_of_le lt_t26 (Nat.le_trans (Nat.le_trans Kq29.1 Kq32.1) Kq35.1)) (Nat.le_of_eq g222.symm)))).other W231 (Nat.ne_of_lt (Nat.lt_of_lt_of_le (Nat.lt_of_lt_of_le lt_t26 (Nat.le_trans (Nat.le_trans Kq29.1 Kq32.1) Kq35.1)) (Nat.le_of_eq g222.symm)))).other W234 (Nat.ne_of_lt (Nat.lt_of_lt_of_le (Nat.lt_of_lt_of_le lt_t26 (Nat.le_trans (Nat.le_trans Kq29.1 Kq32.1) Kq35.1)) (Nat.le_of_eq g222.symm)))).ext E237).other W240 (Nat.ne_of_lt (Nat.lt_of_lt_of_le (Nat.lt_of_lt_of_le lt_t26 (Nat.le_trans (Nat.le_trans (Nat.le_trans (Nat.le_trans (Nat.le_trans (Nat.le_trans (Nat.le_trans Kq29.1 Kq32.1) Kq35.1) E222.1) (Keep.of_wr W225).1) (Keep.of_wr W228).1) (Keep.of_wr W231).1) (Keep.of_wr W234).1)) (Nat.le_of_eq g237.symm)))).other W243 (Nat.ne_of_lt (Nat.lt_of_lt_of_le (Nat.lt_of_lt_of_le lt_t26 (Nat.le_trans (Nat.le_trans (Nat.le_trans (Nat.le_trans (Nat.le_trans (Nat.le_trans (Nat.le_trans Kq29.1 Kq32.1) Kq35.1) E222.1) (Keep.of_wr W225).1) (Keep.of_wr W228).1) (Keep.of_wr W231).1) (Keep.of_wr W234).1)) (Nat.le_of_eq g237.symm)))).other W246 (Nat.ne_of_lt (Nat.lt_of_lt_of_le (Nat.lt_of_lt_of_le lt_t26 (Nat.le_trans (Nat.le_trans (Nat.le_trans (Nat.le_trans (Nat.le_trans (Nat.le_trans (Nat.le_trans Kq29.1 Kq32.1) Kq35.1) E222.1) (Keep.of_wr W225).1) (Keep.of_wr W228).1) (Keep.of_wr W231).1) (Keep.of_wr W234).1)) (Nat.le_of_eq g237.symm)))).other W249 (Nat.ne_of_lt (Nat.lt_of_lt_of_le (Nat.lt_of_lt_of_le lt_t26 (Nat.le_trans (Nat.le_trans (Nat.le_trans (Nat.le_trans (Nat.le_trans (Nat.le_trans (Nat.le_trans Kq29.1 Kq32.1) Kq35.1) E222.1) (Keep.of_wr W225).1) (Keep.of_wr W228).1) (Keep.of_wr W231).1) (Keep.of_wr W234).1)) (Nat.le_of_eq g237.symm)))), So26.2.2.2.2.1, So26.2.2.2.2.2⟩ O2 P5 ((((((((((((((X00.keep Kq26 all0).keep Kq29 all0).keep Kq32 all0).keep Kq35 all0).ext E222).wr W225 (Nat.le_trans Z0 (Nat.le_trans K35.1 (Nat.le_of_eq g222.symm)))).wr W228 (Nat.le_trans Z0 (Nat.le_trans K35.1 (Nat.le_of_eq g222.symm)))).wr W231 (Nat.le_trans Z0 (Nat.le_trans K35.1 (Nat.le_of_eq g222.symm)))).wr W234 (Nat.le_trans Z0 (Nat.le_trans K35.1 (Nat.le_of_eq g222.symm)))).ext E237).wr W240 (Nat.le_trans Z0 (Nat.le_trans K234.1 (Nat.le_of_eq g237.symm)))).wr W243 (Nat.le_trans Z0 (Nat.le_trans K234.1 (Nat.le_of_eq g237.symm)))).wr W246 (Nat.le_trans Z0 (Nat.le_trans K234.1 (Nat.le_of_eq g237.symm)))).wr W249 (Nat.le_trans Z0 (Nat.le_trans K234.1 (Nat.le_of_eq g237.symm))))) hZ35 (hw _ (List.mem_of_getElem? (i := 61) rfl)) (hw _ (List.mem_of_getElem? (i := 2) rfl)) (by decide) (by decide)) q265a q265c (g := (mkF m 287 #[.val (.int p0), .val (.int p1), .val (.int p2), .val (.int p3), .val (.int p4), .val (.int p5), .val (.int k3), .val (.ref pk), .val (.int (4 : Int32)), .val (.int (0 : Int32)), .val (.ref x26), .val (.ref x29), .val (.ref x32), .val (.ref x35), .val (.ref b222), .val (.ref b237), .val (.int he), .val (.int (4 : Int32)), .val (.int ex), .unset] [(.int (0 : Int32)), (.ref b222), (.ref pk)])) rfl (by rw [hml]; rfl) (Steps.refl _) (argsL := [(.ref b222), (.int (0 : Int32))]) (rest := []) (lenOf pd_oaLjavaslangsStringeIcI rfl) rfl (by show 2 * 0 + _ ≤ _; exact Nat.le_of_eq rfl) (hb hby at_287) (fun _ _ => ⟨rfl, e249, (by decide : 26 + 0 ≤ _), (by decide : 56 + 0 ≤ _)⟩)
          dsimp only [Pt.U, Pt.locs, Pt.cells, Pt.slots] at X265 l265 y265 z265 st265 hQ265
          subst l265 y265 z265
          obtain ⟨rfl, Nq265, eq265⟩ := hQ265
          have c266 : Steps p.tables e below S0 (T265.setTop (mkF m 290 #[.val (.int p0), .val (.int p1), .val (.int p2), .val (.int p3), .val (.int p4), .val (.int p5), .val (.int k3), .val (.ref pk), .val (.int (4 : Int32)), .val (.int (0 : Int32)), .val (.ref x26), .val (.ref x29), .val (.ref x32), .val (.ref x35), .val (.ref b222), .val (.ref b237), .val (.int he), .val (.int (4 : Int32)), .val (.int ex), .unset] [(.int (own_span rr te (4 : Int32) (0 : Int32) cs26.length))])) := c264.trans (st265)
          have N265 := Fr.app N249 Nq265
          have c267 : Steps p.tables e below S0 (T265.setTop (mkF m 304 #[.val (.int p0), .val (.int p1), .val (.int p2), .val (.int p3), .val (.int p4), .val (.int p5), .val (.int k3), .val (.ref pk), .val (.int (4 : Int32)), .val (.int (0 : Int32)), .val (.ref x26), .val (.ref x29), .val (.ref x32), .val (.ref x35), .val (.ref b222), .val (.ref b237), .val (.int he), .val (.int (4 : Int32)), .val (.int ex), .val (.int (own_span rr te (4 : Int32) (0 : Int32) cs26.length))] [(.int (1 : Int32))])) := c266.trans (by
            show Steps p.tables e below (T265.setTop (mkF m 290 #[.val (.int p0), .val (.int p1), .val (.int p2), .val (.int p3), .val (.int p4), .val (.int p5), .val (.int k3), .val (.ref pk), .val (.int (4 : Int32)), .val (.int (0 : Int32)), .val (.ref x26), .val (.ref x29), .val (.ref x32), .val (.ref x35), .val (.ref b222), .val (.ref b237), .val (.int he), .val (.int (4 : Int32)), .val (.int ex), .unset] [(.int (own_span rr te (4 : Int32) (0 : Int32) cs26.length))])) _
            refine XS.istore X265.here hx rfl (hb hby at_290) rfl (l' := #[.val (.int p0), .val (.int p1), .val (.int p2), .val (.int p3), .val (.int p4), .val (.int p5), .val (.int k3), .val (.ref pk), .val (.int (4 : Int32)), .val (.int (0 : Int32)), .val (.ref x26), .val (.ref x29), .val (.ref x32), .val (.ref x35), .val (.ref b222), .val (.ref b237), .val (.int he), .val (.int (4 : Int32)), .val (.int ex), .val (.int (own_span rr te (4 : Int32) (0 : Int32) cs26.length))]) rfl ?_
            refine XS.iload X265.here hx rfl (hb hby at_292) rfl ?_
            refine XS.iload X265.here hx rfl (hb hby at_294) rfl ?_
            refine XS.icmpNo X265.here hx rfl (hb hby at_296) rfl (teq (own_ex40 hkk em26 hhe hex)).2 ?_
            show Steps p.tables e below (T265.setTop (mkF m 299 #[.val (.int p0), .val (.int p1), .val (.int p2), .val (.int p3), .val (.int p4), .val (.int p5), .val (.int k3), .val (.ref pk), .val (.int (4 : Int32)), .val (.int (0 : Int32)), .val (.ref x26), .val (.ref x29), .val (.ref x32), .val (.ref x35), .val (.ref b222), .val (.ref b237), .val (.int he), .val (.int (4 : Int32)), .val (.int ex), .val (.int (own_span rr te (4 : Int32) (0 : Int32) cs26.length))] [])) _
            refine XS.iconst X265.here hx rfl (hb hby at_299) ?_
            refine XS.goto X265.here hx rfl (pc0 := 300) (pc' := 304) rfl (hb hby at_300) (by decide) (by decide) ?_
            exact Steps.refl _)
          obtain ⟨fs, hr, hrun, hended, hW⟩ := X265.leaveW hS35 (by rw [eq265]; exact (Nat.le_trans (Nat.le_refl _) (Nat.le_trans (Nat.le_trans (Nat.le_trans (Nat.le_trans (Nat.le_trans (Nat.le_trans (Nat.le_trans (Nat.le_trans (Nat.le_trans E222.1 (Keep.of_wr W225).1) (Keep.of_wr W228).1) (Keep.of_wr W231).1) (Keep.of_wr W234).1) E237.1) (Keep.of_wr W240).1) (Keep.of_wr W243).1) (Keep.of_wr W246).1) (Keep.of_wr W249).1))) (v := some (.int (1 : Int32))) (fun h => by rw [Bd.returns] at h; cases h)
          refine ⟨_, _, c267.trans (retOut X265 hx Bd.returns rfl (Or.inl ⟨rfl, by simp, _, rfl⟩) (hb hby at_304) hr), hrun, hended, _, _, rfl, ?_, ?_, hW.1, hW.2.1, hW.2.2.1, hW.2.2.2.mono (by decide) (by decide)⟩
          · show Q0 Z  h0 n0 _ T265.heap _
            rw [eq265]
            exact ⟨rfl, N265⟩
          · show CHr Z EL s.vm s.heap T265.vm T265.heap
            rw [hh, eq265]; exact R249.trans (CHv.at X265 hZ35 hEL R249.1)
        · rw [ei] at c251
          have c268 : Steps p.tables e below S0 (T249.setTop (mkF m 209 #[.val (.int p0), .val (.int p1), .val (.int p2), .val (.int p3), .val (.int p4), .val (.int p5), .val (.int k3), .val (.ref pk), .val (.int (4 : Int32)), .val (.int (1 : Int32)), .val (.ref x26), .val (.ref x29), .val (.ref x32), .val (.ref x35), .val (.ref b222), .val (.ref b237), .unset, .unset, .unset, .unset] [(.int (1 : Int32)), (.ref b237)])) := c251.trans (by
            show Steps p.tables e below (T249.setTop (mkF m 205 #[.val (.int p0), .val (.int p1), .val (.int p2), .val (.int p3), .val (.int p4), .val (.int p5), .val (.int k3), .val (.ref pk), .val (.int (4 : Int32)), .val (.int (1 : Int32)), .val (.ref x26), .val (.ref x29), .val (.ref x32), .val (.ref x35), .val (.ref b222), .val (.ref b237), .unset, .unset, .unset, .unset] [])) _
            refine XS.aload X249.here hx rfl (hb hby at_205) rfl rfl ?_
            refine XS.iload X249.here hx rfl (hb hby at_207) rfl ?_
            exact Steps.refl _)
          obtain ⟨cl269, Ar269, -, S269, -, Ha269, -⟩ := id V249
          have c270 : Steps p.tables e below S0 (T249.setTop (mkF m 212 #[.val (.int p0), .val (.int p1), .val (.int p2), .val (.int p3), .val (.int p4), .val (.int p5), .val (.int k3), .val (.ref pk), .val (.int (4 : Int32)), .val (.int (1 : Int32)), .val (.ref x26), .val (.ref x29), .val (.ref x32), .val (.ref x35), .val (.ref b222), .val (.ref b237), .unset, .unset, .unset, .unset] [(.int (p3 &&& (3 : Int32)))])) := c268.trans (by
            show Steps p.tables e below (T249.setTop (mkF m 209 #[.val (.int p0), .val (.int p1), .val (.int p2), .val (.int p3), .val (.int p4), .val (.int p5), .val (.int k3), .val (.ref pk), .val (.int (4 : Int32)), .val (.int (1 : Int32)), .val (.ref x26), .val (.ref x29), .val (.ref x32), .val (.ref x35), .val (.ref b222), .val (.ref b237), .unset, .unset, .unset, .unset] [(.int (1 : Int32)), (.ref b237)])) _
            refine X249.iaload hx (j := (1 : Int32)) (v := (.int p3)) (by rw [e249]; exact Ar269.1) (State.isArrayOf_alike hZ35.alike Ar269.2.1) Ar269.2.2 (inb_of S269 ⟨by decide, by decide⟩) (Ha269.at (inb_of S269 ⟨by decide, by decide⟩) rfl) (g := (mkF m 209 #[.val (.int p0), .val (.int p1), .val (.int p2), .val (.int p3), .val (.int p4), .val (.int p5), .val (.int k3), .val (.ref pk), .val (.int (4 : Int32)), .val (.int (1 : Int32)), .val (.ref x26), .val (.ref x29), .val (.ref x32), .val (.ref x35), .val (.ref b222), .val (.ref b237), .unset, .unset, .unset, .unset] [(.int (1 : Int32)), (.ref b237)])) rfl rfl (hb hby at_209) _ ?_
            refine XS.iconst X249.here hx rfl (hb hby at_210) ?_
            refine XS.iand X249.here hx rfl (hb hby at_211) rfl ?_
            exact Steps.refl _)
          obtain ⟨he, hhe, c273⟩ : ∃ (he : Int32), he = (if (p3 &&& (3 : Int32)) = (0 : Int32) then (1 : Int32) else (0 : Int32)) ∧ Steps p.tables e below S0 (T249.setTop (mkF m 220 #[.val (.int p0), .val (.int p1), .val (.int p2), .val (.int p3), .val (.int p4), .val (.int p5), .val (.int k3), .val (.ref pk), .val (.int (4 : Int32)), .val (.int (1 : Int32)), .val (.ref x26), .val (.ref x29), .val (.ref x32), .val (.ref x35), .val (.ref b222), .val (.ref b237), .unset, .unset, .unset, .unset] [(.int he)])) := by
            by_cases hq271 : (p3 &&& (3 : Int32)) = (0 : Int32)
            · exact ⟨_, (by rw [if_pos hq271]), c270.trans (by
                show Steps p.tables e below (T249.setTop (mkF m 212 #[.val (.int p0), .val (.int p1), .val (.int p2), .val (.int p3), .val (.int p4), .val (.int p5), .val (.int k3), .val (.ref pk), .val (.int (4 : Int32)), .val (.int (1 : Int32)), .val (.ref x26), .val (.ref x29), .val (.ref x32), .val (.ref x35), .val (.ref b222), .val (.ref b237), .unset, .unset, .unset, .unset] [(.int (p3 &&& (3 : Int32)))])) _
                refine XS.ifNo X249.here hx rfl (hb hby at_212) rfl ((if0 _ _).trans (teq hq271).2) ?_
                refine XS.iconst X249.here hx rfl (hb hby at_215) ?_
                refine XS.goto X249.here hx rfl (pc0 := 216) (pc' := 220) rfl (hb hby at_216) (by decide) (by decide) ?_
                exact Steps.refl _)⟩
            · exact ⟨_, (by rw [if_neg hq271]), c270.trans (by
                show Steps p.tables e below (T249.setTop (mkF m 212 #[.val (.int p0), .val (.int p1), .val (.int p2), .val (.int p3), .val (.int p4), .val (.int p5), .val (.int k3), .val (.ref pk), .val (.int (4 : Int32)), .val (.int (1 : Int32)), .val (.ref x26), .val (.ref x29), .val (.ref x32), .val (.ref x35), .val (.ref b222), .val (.ref b237), .unset, .unset, .unset, .unset] [(.int (p3 &&& (3 : Int32)))])) _
                refine XS.ifYes X249.here hx rfl (pc0 := 212) (pc' := 219) rfl (hb hby at_212) rfl ((if0 _ _).trans (feq hq271).2) (by decide) (by decide) ?_
                refine XS.iconst X249.here hx rfl (hb hby at_219) ?_
                exact Steps.refl _)⟩
          have c274 : Steps p.tables e below S0 (T249.setTop (mkF m 231 #[.val (.int p0), .val (.int p1), .val (.int p2), .val (.int p3), .val (.int p4), .val (.int p5), .val (.int k3), .val (.ref pk), .val (.int (4 : Int32)), .val (.int (1 : Int32)), .val (.ref x26), .val (.ref x29), .val (.ref x32), .val (.ref x35), .val (.ref b222), .val (.ref b237), .val (.int he), .val (.int (3 : Int32)), .unset, .unset] [(.int k3)])) := c273.trans (by
            show Steps p.tables e below (T249.setTop (mkF m 220 #[.val (.int p0), .val (.int p1), .val (.int p2), .val (.int p3), .val (.int p4), .val (.int p5), .val (.int k3), .val (.ref pk), .val (.int (4 : Int32)), .val (.int (1 : Int32)), .val (.ref x26), .val (.ref x29), .val (.ref x32), .val (.ref x35), .val (.ref b222), .val (.ref b237), .unset, .unset, .unset, .unset] [(.int he)])) _
            refine XS.istore X249.here hx rfl (hb hby at_220) rfl (l' := #[.val (.int p0), .val (.int p1), .val (.int p2), .val (.int p3), .val (.int p4), .val (.int p5), .val (.int k3), .val (.ref pk), .val (.int (4 : Int32)), .val (.int (1 : Int32)), .val (.ref x26), .val (.ref x29), .val (.ref x32), .val (.ref x35), .val (.ref b222), .val (.ref b237), .val (.int he), .unset, .unset, .unset]) rfl ?_
            refine XS.iload X249.here hx rfl (hb hby at_222) rfl ?_
            refine XS.iload X249.here hx rfl (hb hby at_224) rfl ?_
            refine XS.isub X249.here hx rfl (hb hby at_226) rfl ?_
            show Steps p.tables e below (T249.setTop (mkF m 227 #[.val (.int p0), .val (.int p1), .val (.int p2), .val (.int p3), .val (.int p4), .val (.int p5), .val (.int k3), .val (.ref pk), .val (.int (4 : Int32)), .val (.int (1 : Int32)), .val (.ref x26), .val (.ref x29), .val (.ref x32), .val (.ref x35), .val (.ref b222), .val (.ref b237), .val (.int he), .unset, .unset, .unset] [(.int (3 : Int32))])) _
            refine XS.istore X249.here hx rfl (hb hby at_227) rfl (l' := #[.val (.int p0), .val (.int p1), .val (.int p2), .val (.int p3), .val (.int p4), .val (.int p5), .val (.int k3), .val (.ref pk), .val (.int (4 : Int32)), .val (.int (1 : Int32)), .val (.ref x26), .val (.ref x29), .val (.ref x32), .val (.ref x35), .val (.ref b222), .val (.ref b237), .val (.int he), .val (.int (3 : Int32)), .unset, .unset]) rfl ?_
            refine XS.iload X249.here hx rfl (hb hby at_229) rfl ?_
            exact Steps.refl _)
          obtain ⟨ex, hex, c279⟩ : ∃ (ex : Int32), ex = (if k3 = (0 : Int32) then (if he = (0 : Int32) then (1 : Int32) else (0 : Int32)) else (3 : Int32)) ∧ Steps p.tables e below S0 (T249.setTop (mkF m 281 #[.val (.int p0), .val (.int p1), .val (.int p2), .val (.int p3), .val (.int p4), .val (.int p5), .val (.int k3), .val (.ref pk), .val (.int (4 : Int32)), .val (.int (1 : Int32)), .val (.ref x26), .val (.ref x29), .val (.ref x32), .val (.ref x35), .val (.ref b222), .val (.ref b237), .val (.int he), .val (.int (3 : Int32)), .val (.int ex), .unset] [])) := by
            by_cases hq275 : k3 = (0 : Int32)
            · by_cases hq276 : he = (0 : Int32)
              · exact ⟨_, (by rw [if_pos hq275, if_pos hq276]), c274.trans (by
                  show Steps p.tables e below (T249.setTop (mkF m 231 #[.val (.int p0), .val (.int p1), .val (.int p2), .val (.int p3), .val (.int p4), .val (.int p5), .val (.int k3), .val (.ref pk), .val (.int (4 : Int32)), .val (.int (1 : Int32)), .val (.ref x26), .val (.ref x29), .val (.ref x32), .val (.ref x35), .val (.ref b222), .val (.ref b237), .val (.int he), .val (.int (3 : Int32)), .unset, .unset] [(.int k3)])) _
                  refine XS.ifNo X249.here hx rfl (hb hby at_231) rfl ((if0 _ _).trans (teq hq275).2) ?_
                  refine XS.iload X249.here hx rfl (hb hby at_234) rfl ?_
                  refine XS.ifYes X249.here hx rfl (pc0 := 236) (pc' := 243) rfl (hb hby at_236) rfl ((if0 _ _).trans (teq hq276).1) (by decide) (by decide) ?_
                  refine XS.iconst X249.here hx rfl (hb hby at_243) ?_
                  show Steps p.tables e below (T249.setTop (mkF m 244 #[.val (.int p0), .val (.int p1), .val (.int p2), .val (.int p3), .val (.int p4), .val (.int p5), .val (.int k3), .val (.ref pk), .val (.int (4 : Int32)), .val (.int (1 : Int32)), .val (.ref x26), .val (.ref x29), .val (.ref x32), .val (.ref x35), .val (.ref b222), .val (.ref b237), .val (.int he), .val (.int (3 : Int32)), .unset, .unset] [(.int (1 : Int32))])) _
                  refine XS.istore X249.here hx rfl (hb hby at_244) rfl (l' := #[.val (.int p0), .val (.int p1), .val (.int p2), .val (.int p3), .val (.int p4), .val (.int p5), .val (.int k3), .val (.ref pk), .val (.int (4 : Int32)), .val (.int (1 : Int32)), .val (.ref x26), .val (.ref x29), .val (.ref x32), .val (.ref x35), .val (.ref b222), .val (.ref b237), .val (.int he), .val (.int (3 : Int32)), .val (.int (1 : Int32)), .unset]) rfl ?_
                  refine XS.goto X249.here hx rfl (pc0 := 246) (pc' := 281) rfl (hb hby at_246) (by decide) (by decide) ?_
                  exact Steps.refl _)⟩
              · exact ⟨_, (by rw [if_pos hq275, if_neg hq276]), c274.trans (by
                  show Steps p.tables e below (T249.setTop (mkF m 231 #[.val (.int p0), .val (.int p1), .val (.int p2), .val (.int p3), .val (.int p4), .val (.int p5), .val (.int k3), .val (.ref pk), .val (.int (4 : Int32)), .val (.int (1 : Int32)), .val (.ref x26), .val (.ref x29), .val (.ref x32), .val (.ref x35), .val (.ref b222), .val (.ref b237), .val (.int he), .val (.int (3 : Int32)), .unset, .unset] [(.int k3)])) _
                  refine XS.ifNo X249.here hx rfl (hb hby at_231) rfl ((if0 _ _).trans (teq hq275).2) ?_
                  refine XS.iload X249.here hx rfl (hb hby at_234) rfl ?_
                  refine XS.ifNo X249.here hx rfl (hb hby at_236) rfl ((if0 _ _).trans (feq hq276).1) ?_
                  refine XS.iconst X249.here hx rfl (hb hby at_239) ?_
                  show Steps p.tables e below (T249.setTop (mkF m 240 #[.val (.int p0), .val (.int p1), .val (.int p2), .val (.int p3), .val (.int p4), .val (.int p5), .val (.int k3), .val (.ref pk), .val (.int (4 : Int32)), .val (.int (1 : Int32)), .val (.ref x26), .val (.ref x29), .val (.ref x32), .val (.ref x35), .val (.ref b222), .val (.ref b237), .val (.int he), .val (.int (3 : Int32)), .unset, .unset] [(.int (0 : Int32))])) _
                  refine XS.goto X249.here hx rfl (pc0 := 240) (pc' := 244) rfl (hb hby at_240) (by decide) (by decide) ?_
                  refine XS.istore X249.here hx rfl (hb hby at_244) rfl (l' := #[.val (.int p0), .val (.int p1), .val (.int p2), .val (.int p3), .val (.int p4), .val (.int p5), .val (.int k3), .val (.ref pk), .val (.int (4 : Int32)), .val (.int (1 : Int32)), .val (.ref x26), .val (.ref x29), .val (.ref x32), .val (.ref x35), .val (.ref b222), .val (.ref b237), .val (.int he), .val (.int (3 : Int32)), .val (.int (0 : Int32)), .unset]) rfl ?_
                  refine XS.goto X249.here hx rfl (pc0 := 246) (pc' := 281) rfl (hb hby at_246) (by decide) (by decide) ?_
                  exact Steps.refl _)⟩
            · by_cases hq277 : k3 = (1 : Int32)
              · exact ⟨_, (by rw [if_neg hq275]), c274.trans (by
                  show Steps p.tables e below (T249.setTop (mkF m 231 #[.val (.int p0), .val (.int p1), .val (.int p2), .val (.int p3), .val (.int p4), .val (.int p5), .val (.int k3), .val (.ref pk), .val (.int (4 : Int32)), .val (.int (1 : Int32)), .val (.ref x26), .val (.ref x29), .val (.ref x32), .val (.ref x35), .val (.ref b222), .val (.ref b237), .val (.int he), .val (.int (3 : Int32)), .unset, .unset] [(.int k3)])) _
                  refine XS.ifYes X249.here hx rfl (pc0 := 231) (pc' := 249) rfl (hb hby at_231) rfl ((if0 _ _).trans (feq hq275).2) (by decide) (by decide) ?_
                  refine XS.iload X249.here hx rfl (hb hby at_249) rfl ?_
                  refine XS.iconst X249.here hx rfl (hb hby at_251) ?_
                  refine XS.icmpNo X249.here hx rfl (hb hby at_252) rfl (teq hq277).2 ?_
                  show Steps p.tables e below (T249.setTop (mkF m 255 #[.val (.int p0), .val (.int p1), .val (.int p2), .val (.int p3), .val (.int p4), .val (.int p5), .val (.int k3), .val (.ref pk), .val (.int (4 : Int32)), .val (.int (1 : Int32)), .val (.ref x26), .val (.ref x29), .val (.ref x32), .val (.ref x35), .val (.ref b222), .val (.ref b237), .val (.int he), .val (.int (3 : Int32)), .unset, .unset] [])) _
                  refine XS.iload X249.here hx rfl (hb hby at_255) rfl ?_
                  refine XS.iconst X249.here hx rfl (hb hby at_257) ?_
                  refine XS.icmpYes X249.here hx rfl (pc0 := 258) (pc' := 270) rfl (hb hby at_258) rfl (feq (by decide : ¬ ((3 : Int32) = (1 : Int32)))).2 (by decide) (by decide) ?_
                  refine XS.iload X249.here hx rfl (hb hby at_270) rfl ?_
                  show Steps p.tables e below (T249.setTop (mkF m 272 #[.val (.int p0), .val (.int p1), .val (.int p2), .val (.int p3), .val (.int p4), .val (.int p5), .val (.int k3), .val (.ref pk), .val (.int (4 : Int32)), .val (.int (1 : Int32)), .val (.ref x26), .val (.ref x29), .val (.ref x32), .val (.ref x35), .val (.ref b222), .val (.ref b237), .val (.int he), .val (.int (3 : Int32)), .unset, .unset] [(.int (3 : Int32))])) _
                  refine XS.istore X249.here hx rfl (hb hby at_272) rfl (l' := #[.val (.int p0), .val (.int p1), .val (.int p2), .val (.int p3), .val (.int p4), .val (.int p5), .val (.int k3), .val (.ref pk), .val (.int (4 : Int32)), .val (.int (1 : Int32)), .val (.ref x26), .val (.ref x29), .val (.ref x32), .val (.ref x35), .val (.ref b222), .val (.ref b237), .val (.int he), .val (.int (3 : Int32)), .val (.int (3 : Int32)), .unset]) rfl ?_
                  refine XS.goto X249.here hx rfl (pc0 := 274) (pc' := 281) rfl (hb hby at_274) (by decide) (by decide) ?_
                  exact Steps.refl _)⟩
              · exact ⟨_, (by rw [if_neg hq275]), c274.trans (by
                  show Steps p.tables e below (T249.setTop (mkF m 231 #[.val (.int p0), .val (.int p1), .val (.int p2), .val (.int p3), .val (.int p4), .val (.int p5), .val (.int k3), .val (.ref pk), .val (.int (4 : Int32)), .val (.int (1 : Int32)), .val (.ref x26), .val (.ref x29), .val (.ref x32), .val (.ref x35), .val (.ref b222), .val (.ref b237), .val (.int he), .val (.int (3 : Int32)), .unset, .unset] [(.int k3)])) _
                  refine XS.ifYes X249.here hx rfl (pc0 := 231) (pc' := 249) rfl (hb hby at_231) rfl ((if0 _ _).trans (feq hq275).2) (by decide) (by decide) ?_
                  refine XS.iload X249.here hx rfl (hb hby at_249) rfl ?_
                  refine XS.iconst X249.here hx rfl (hb hby at_251) ?_
                  refine XS.icmpYes X249.here hx rfl (pc0 := 252) (pc' := 277) rfl (hb hby at_252) rfl (feq hq277).2 (by decide) (by decide) ?_
                  show Steps p.tables e below (T249.setTop (mkF m 277 #[.val (.int p0), .val (.int p1), .val (.int p2), .val (.int p3), .val (.int p4), .val (.int p5), .val (.int k3), .val (.ref pk), .val (.int (4 : Int32)), .val (.int (1 : Int32)), .val (.ref x26), .val (.ref x29), .val (.ref x32), .val (.ref x35), .val (.ref b222), .val (.ref b237), .val (.int he), .val (.int (3 : Int32)), .unset, .unset] [])) _
                  refine XS.iload X249.here hx rfl (hb hby at_277) rfl ?_
                  refine XS.istore X249.here hx rfl (hb hby at_279) rfl (l' := #[.val (.int p0), .val (.int p1), .val (.int p2), .val (.int p3), .val (.int p4), .val (.int p5), .val (.int k3), .val (.ref pk), .val (.int (4 : Int32)), .val (.int (1 : Int32)), .val (.ref x26), .val (.ref x29), .val (.ref x32), .val (.ref x35), .val (.ref b222), .val (.ref b237), .val (.int he), .val (.int (3 : Int32)), .val (.int (3 : Int32)), .unset]) rfl ?_
                  exact Steps.refl _)⟩
          have c280 : Steps p.tables e below S0 (T249.setTop (mkF m 287 #[.val (.int p0), .val (.int p1), .val (.int p2), .val (.int p3), .val (.int p4), .val (.int p5), .val (.int k3), .val (.ref pk), .val (.int (4 : Int32)), .val (.int (1 : Int32)), .val (.ref x26), .val (.ref x29), .val (.ref x32), .val (.ref x35), .val (.ref b222), .val (.ref b237), .val (.int he), .val (.int (3 : Int32)), .val (.int ex), .unset] [(.int (1 : Int32)), (.ref b222), (.ref pk)])) := c279.trans (by
            show Steps p.tables e below (T249.setTop (mkF m 281 #[.val (.int p0), .val (.int p1), .val (.int p2), .val (.int p3), .val (.int p4), .val (.int p5), .val (.int k3), .val (.ref pk), .val (.int (4 : Int32)), .val (.int (1 : Int32)), .val (.ref x26), .val (.ref x29), .val (.ref x32), .val (.ref x35), .val (.ref b222), .val (.ref b237), .val (.int he), .val (.int (3 : Int32)), .val (.int ex), .unset] [])) _
            refine XS.aload X249.here hx rfl (hb hby at_281) rfl rfl ?_
            refine XS.aload X249.here hx rfl (hb hby at_283) rfl rfl ?_
            refine XS.iload X249.here hx rfl (hb hby at_285) rfl ?_
            exact Steps.refl _)
          obtain ⟨cq281, kq281, q281a, q281b, q281c⟩ := isOf hZ35 e249 (((((((((((((((xpk.ext X00.2).keep Kq26).keep Kq29).keep Kq32).keep Kq35).ext E222).wr W225).wr W228).wr W231).wr W234).ext E237).wr W240).wr W243).wr W246).wr W249)
          obtain ⟨_, _, ⟨T281, L281, kk281, nn281⟩, -, X281, ⟨Lc281, hQ281, l281, y281, z281⟩, st281⟩ := X249.virtualBack hx (y := (⟨"com/example/libroute/libroute/pattern/ParameterKind", "span", "([Ljava/lang/String;I)I"⟩ : MethodName)) (z := (⟨"com/example/libroute/libroute/pattern/ParameterKind", "span", "([Ljava/lang/String;I)I"⟩ : MethodName)) hown35 (mvT hZ35 (hw _ (List.mem_of_getElem? (i := 57) rfl))) (mvT hZ35 (hw _ (List.mem_of_getElem? (i := 58) rfl))) (notFace_of_selects (args := #[]) (mvT hZ35 (hw _ (List.mem_of_getElem? (i := 60) rfl)))) (mvT hZ35 (hw _ (List.mem_of_getElem? (i := 60) rfl))) (mvT hZ35 (hw _ (List.mem_of_getElem? (i := 59) rfl))) (by decide) (backOf (W := 0) (rmSp l Z a0 hw [] pk b222 rr te (4 : Int32) (1 : Int32) _ [(.ref x26), (.ref x29), (.ref x32), (.ref x35)] x29 t29 kb29 cs29 G1 h249 n0 z249 (((((((((((((((Fp.ext X00.2).keep Kq26 nin0).keep Kq29 nin0).keep Kq32 nin0).keep Kq35 nin0).ext E222).other W225 (Or.inl (Nat.ne_of_lt (Nat.lt_of_lt_of_le (Nat.lt_of_lt_of_le (xpk.ext X00.2).lt (Nat.le_trans (Nat.le_trans (Nat.le_trans Kq26.1 Kq29.1) Kq32.1) Kq35.1)) (Nat.le_of_eq g222.symm))))).other W228 (Or.inl (Nat.ne_of_lt (Nat.lt_of_lt_of_le (Nat.lt_of_lt_of_le (xpk.ext X00.2).lt (Nat.le_trans (Nat.le_trans (Nat.le_trans Kq26.1 Kq29.1) Kq32.1) Kq35.1)) (Nat.le_of_eq g222.symm))))).other W231 (Or.inl (Nat.ne_of_lt (Nat.lt_of_lt_of_le (Nat.lt_of_lt_of_le (xpk.ext X00.2).lt (Nat.le_trans (Nat.le_trans (Nat.le_trans Kq26.1 Kq29.1) Kq32.1) Kq35.1)) (Nat.le_of_eq g222.symm))))).other W234 (Or.inl (Nat.ne_of_lt (Nat.lt_of_lt_of_le (Nat.lt_of_lt_of_le (xpk.ext X00.2).lt (Nat.le_trans (Nat.le_trans (Nat.le_trans Kq26.1 Kq29.1) Kq32.1) Kq35.1)) (Nat.le_of_eq g222.symm))))).ext E237).other W240 (Or.inl (Nat.ne_of_lt (Nat.lt_of_lt_of_le (Nat.lt_of_lt_of_le (xpk.ext X00.2).lt (Nat.le_trans (Nat.le_trans (Nat.le_trans (Nat.le_trans (Nat.le_trans (Nat.le_trans (Nat.le_trans (Nat.le_trans Kq26.1 Kq29.1) Kq32.1) Kq35.1) E222.1) (Keep.of_wr W225).1) (Keep.of_wr W228).1) (Keep.of_wr W231).1) (Keep.of_wr W234).1)) (Nat.le_of_eq g237.symm))))).other W243 (Or.inl (Nat.ne_of_lt (Nat.lt_of_lt_of_le (Nat.lt_of_lt_of_le (xpk.ext X00.2).lt (Nat.le_trans (Nat.le_trans (Nat.le_trans (Nat.le_trans (Nat.le_trans (Nat.le_trans (Nat.le_trans (Nat.le_trans Kq26.1 Kq29.1) Kq32.1) Kq35.1) E222.1) (Keep.of_wr W225).1) (Keep.of_wr W228).1) (Keep.of_wr W231).1) (Keep.of_wr W234).1)) (Nat.le_of_eq g237.symm))))).other W246 (Or.inl (Nat.ne_of_lt (Nat.lt_of_lt_of_le (Nat.lt_of_lt_of_le (xpk.ext X00.2).lt (Nat.le_trans (Nat.le_trans (Nat.le_trans (Nat.le_trans (Nat.le_trans (Nat.le_trans (Nat.le_trans (Nat.le_trans Kq26.1 Kq29.1) Kq32.1) Kq35.1) E222.1) (Keep.of_wr W225).1) (Keep.of_wr W228).1) (Keep.of_wr W231).1) (Keep.of_wr W234).1)) (Nat.le_of_eq g237.symm))))).other W249 (Or.inl (Nat.ne_of_lt (Nat.lt_of_lt_of_le (Nat.lt_of_lt_of_le (xpk.ext X00.2).lt (Nat.le_trans (Nat.le_trans (Nat.le_trans (Nat.le_trans (Nat.le_trans (Nat.le_trans (Nat.le_trans (Nat.le_trans Kq26.1 Kq29.1) Kq32.1) Kq35.1) E222.1) (Keep.of_wr W225).1) (Keep.of_wr W228).1) (Keep.of_wr W231).1) (Keep.of_wr W234).1)) (Nat.le_of_eq g237.symm))))) (((((((((((((((Gp.ext X00.2).keep Kq26 nin0).keep Kq29 nin0).keep Kq32 nin0).keep Kq35 nin0).ext E222).other W225 (Or.inl (Nat.ne_of_lt (Nat.lt_of_lt_of_le (Nat.lt_of_lt_of_le (xpk.ext X00.2).lt (Nat.le_trans (Nat.le_trans (Nat.le_trans Kq26.1 Kq29.1) Kq32.1) Kq35.1)) (Nat.le_of_eq g222.symm))))).other W228 (Or.inl (Nat.ne_of_lt (Nat.lt_of_lt_of_le (Nat.lt_of_lt_of_le (xpk.ext X00.2).lt (Nat.le_trans (Nat.le_trans (Nat.le_trans Kq26.1 Kq29.1) Kq32.1) Kq35.1)) (Nat.le_of_eq g222.symm))))).other W231 (Or.inl (Nat.ne_of_lt (Nat.lt_of_lt_of_le (Nat.lt_of_lt_of_le (xpk.ext X00.2).lt (Nat.le_trans (Nat.le_trans (Nat.le_trans Kq26.1 Kq29.1) Kq32.1) Kq35.1)) (Nat.le_of_eq g222.symm))))).other W234 (Or.inl (Nat.ne_of_lt (Nat.lt_of_lt_of_le (Nat.lt_of_lt_of_le (xpk.ext X00.2).lt (Nat.le_trans (Nat.le_trans (Nat.le_trans Kq26.1 Kq29.1) Kq32.1) Kq35.1)) (Nat.le_of_eq g222.symm))))).ext E237).other W240 (Or.inl (Nat.ne_of_lt (Nat.lt_of_lt_of_le (Nat.lt_of_lt_of_le (xpk.ext X00.2).lt (Nat.le_trans (Nat.le_trans (Nat.le_trans (Nat.le_trans (Nat.le_trans (Nat.le_trans (Nat.le_trans (Nat.le_trans Kq26.1 Kq29.1) Kq32.1) Kq35.1) E222.1) (Keep.of_wr W225).1) (Keep.of_wr W228).1) (Keep.of_wr W231).1) (Keep.of_wr W234).1)) (Nat.le_of_eq g237.symm))))).other W243 (Or.inl (Nat.ne_of_lt (Nat.lt_of_lt_of_le (Nat.lt_of_lt_of_le (xpk.ext X00.2).lt (Nat.le_trans (Nat.le_trans (Nat.le_trans (Nat.le_trans (Nat.le_trans (Nat.le_trans (Nat.le_trans (Nat.le_trans Kq26.1 Kq29.1) Kq32.1) Kq35.1) E222.1) (Keep.of_wr W225).1) (Keep.of_wr W228).1) (Keep.of_wr W231).1) (Keep.of_wr W234).1)) (Nat.le_of_eq g237.symm))))).other W246 (Or.inl (Nat.ne_of_lt (Nat.lt_of_lt_of_le (Nat.lt_of_lt_of_le (xpk.ext X00.2).lt (Nat.le_trans (Nat.le_trans (Nat.le_trans (Nat.le_trans (Nat.le_trans (Nat.le_trans (Nat.le_trans (Nat.le_trans Kq26.1 Kq29.1) Kq32.1) Kq35.1) E222.1) (Keep.of_wr W225).1) (Keep.of_wr W228).1) (Keep.of_wr W231).1) (Keep.of_wr W234).1)) (Nat.le_of_eq g237.symm))))).other W249 (Or.inl (Nat.ne_of_lt (Nat.lt_of_lt_of_le (Nat.lt_of_lt_of_le (xpk.ext X00.2).lt (Nat.le_trans (Nat.le_trans (Nat.le_trans (Nat.le_trans (Nat.le_trans (Nat.le_trans (Nat.le_trans (Nat.le_trans Kq26.1 Kq29.1) Kq32.1) Kq35.1) E222.1) (Keep.of_wr W225).1) (Keep.of_wr W228).1) (Keep.of_wr W231).1) (Keep.of_wr W234).1)) (Nat.le_of_eq g237.symm))))) (((((V234.ext E237).other W240 (Nat.ne_of_lt (Nat.lt_of_lt_of_le (Nat.lt_of_lt_of_le lt_b222 (Nat.le_trans (Nat.le_trans (Nat.le_trans (Keep.of_wr W225).1 (Keep.of_wr W228).1) (Keep.of_wr W231).1) (Keep.of_wr W234).1)) (Nat.le_of_eq g237.symm)))).other W243 (Nat.ne_of_lt (Nat.lt_of_lt_of_le (Nat.lt_of_lt_of_le lt_b222 (Nat.le_trans (Nat.le_trans (Nat.le_trans (Keep.of_wr W225).1 (Keep.of_wr W228).1) (Keep.of_wr W231).1) (Keep.of_wr W234).1)) (Nat.le_of_eq g237.symm)))).other W246 (Nat.ne_of_lt (Nat.lt_of_lt_of_le (Nat.lt_of_lt_of_le lt_b222 (Nat.le_trans (Nat.le_trans (Nat.le_trans (Keep.of_wr W225).1 (Keep.of_wr W228).1) (Keep.of_wr W231).1) (Keep.of_wr W234).1)) (Nat.le_of_eq g237.symm)))).other W249 (Nat.ne_of_lt (Nat.lt_of_lt_of_le (Nat.lt_of_lt_of_le lt_b222 (Nat.le_trans (Nat.le_trans (Nat.le_trans (Keep.of_wr W225).1 (Keep.of_wr W228).1) (Keep.of_wr W231).1) (Keep.of_wr W234).1)) (Nat.le_of_eq g237.symm)))) ⟨by decide, by decide⟩ rfl ⟨((((((((((((So29.1.keep Kq32).keep Kq35).ext E222).wr W225).wr W228).wr W231).wr W234).ext E237).wr W240).wr W243).wr W246).wr W249), ((((((((((((So29.2.1.keep Kq32 nin0).keep Kq35 nin0).ext E222).other W225 (Or.inl (Nat.ne_of_lt (Nat.lt_of_lt_of_le (Nat.lt_of_lt_of_le lt_x29 (Nat.le_trans Kq32.1 Kq35.1)) (Nat.le_of_eq g222.symm))))).other W228 (Or.inl (Nat.ne_of_lt (Nat.lt_of_lt_of_le (Nat.lt_of_lt_of_le lt_x29 (Nat.le_trans Kq32.1 Kq35.1)) (Nat.le_of_eq g222.symm))))).other W231 (Or.inl (Nat.ne_of_lt (Nat.lt_of_lt_of_le (Nat.lt_of_lt_of_le lt_x29 (Nat.le_trans Kq32.1 Kq35.1)) (Nat.le_of_eq g222.symm))))).other W234 (Or.inl (Nat.ne_of_lt (Nat.lt_of_lt_of_le (Nat.lt_of_lt_of_le lt_x29 (Nat.le_trans Kq32.1 Kq35.1)) (Nat.le_of_eq g222.symm))))).ext E237).other W240 (Or.inl (Nat.ne_of_lt (Nat.lt_of_lt_of_le (Nat.lt_of_lt_of_le lt_x29 (Nat.le_trans (Nat.le_trans (Nat.le_trans (Nat.le_trans (Nat.le_trans (Nat.le_trans Kq32.1 Kq35.1) E222.1) (Keep.of_wr W225).1) (Keep.of_wr W228).1) (Keep.of_wr W231).1) (Keep.of_wr W234).1)) (Nat.le_of_eq g237.symm))))).other W243 (Or.inl (Nat.ne_of_lt (Nat.lt_of_lt_of_le (Nat.lt_of_lt_of_le lt_x29 (Nat.le_trans (Nat.le_trans (Nat.le_trans (Nat.le_trans (Nat.le_trans (Nat.le_trans Kq32.1 Kq35.1) E222.1) (Keep.of_wr W225).1) (Keep.of_wr W228).1) (Keep.of_wr W231).1) (Keep.of_wr W234).1)) (Nat.le_of_eq g237.symm))))).other W246 (Or.inl (Nat.ne_of_lt (Nat.lt_of_lt_of_le (Nat.lt_of_lt_of_le lt_x29 (Nat.le_trans (Nat.le_trans (Nat.le_trans (Nat.le_trans (Nat.le_trans (Nat.le_trans Kq32.1 Kq35.1) E222.1) (Keep.of_wr W225).1) (Keep.of_wr W228).1) (Keep.of_wr W231).1) (Keep.of_wr W234).1)) (Nat.le_of_eq g237.symm))))).other W249 (Or.inl (Nat.ne_of_lt (Nat.lt_of_lt_of_le (Nat.lt_of_lt_of_le lt_x29 (Nat.le_trans (Nat.le_trans (Nat.le_trans (Nat.le_trans (Nat.le_trans (Nat.le_trans Kq32.1 Kq35.1) E222.1) (Keep.of_wr W225).1) (Keep.of_wr W228).1) (Keep.of_wr W231).1) (Keep.of_wr W234).1)) (Nat.le_of_eq g237.symm))))), ((((((((((((So29.2.2.1.keep Kq32 nin0).keep Kq35 nin0).ext E222).other W225 (Or.inl (Nat.ne_of_lt (Nat.lt_of_lt_of_le (Nat.lt_of_lt_of_le lt_x29 (Nat.le_trans Kq32.1 Kq35.1)) (Nat.le_of_eq g222.symm))))).other W228 (Or.inl (Nat.ne_of_lt (Nat.lt_of_lt_of_le (Nat.lt_of_lt_of_le lt_x29 (Nat.le_trans Kq32.1 Kq35.1)) (Nat.le_of_eq g222.symm))))).other W231 (Or.inl (Nat.ne_of_lt (Nat.lt_of_lt_of_le (Nat.lt_of_lt_of_le lt_x29 (Nat.le_trans Kq32.1 Kq35.1)) (Nat.le_of_eq g222.symm))))).other W234 (Or.inl (Nat.ne_of_lt (Nat.lt_of_lt_of_le (Nat.lt_of_lt_of_le lt_x29 (Nat.le_trans Kq32.1 Kq35.1)) (Nat.le_of_eq g222.symm))))).ext E237).other W240 (Or.inl (Nat.ne_of_lt (Nat.lt_of_lt_of_le (Nat.lt_of_lt_of_le lt_x29 (Nat.le_trans (Nat.le_trans (Nat.le_trans (Nat.le_trans (Nat.le_trans (Nat.le_trans Kq32.1 Kq35.1) E222.1) (Keep.of_wr W225).1) (Keep.of_wr W228).1) (Keep.of_wr W231).1) (Keep.of_wr W234).1)) (Nat.le_of_eq g237.symm))))).other W243 (Or.inl (Nat.ne_of_lt (Nat.lt_of_lt_of_le (Nat.lt_of_lt_of_le lt_x29 (Nat.le_trans (Nat.le_trans (Nat.le_trans (Nat.le_trans (Nat.le_trans (Nat.le_trans Kq32.1 Kq35.1) E222.1) (Keep.of_wr W225).1) (Keep.of_wr W228).1) (Keep.of_wr W231).1) (Keep.of_wr W234).1)) (Nat.le_of_eq g237.symm))))).other W246 (Or.inl (Nat.ne_of_lt (Nat.lt_of_lt_of_le (Nat.lt_of_lt_of_le lt_x29 (Nat.le_trans (Nat.le_trans (Nat.le_trans (Nat.le_trans (Nat.le_trans (Nat.le_trans Kq32.1 Kq35.1) E222.1) (Keep.of_wr W225).1) (Keep.of_wr W228).1) (Keep.of_wr W231).1) (Keep.of_wr W234).1)) (Nat.le_of_eq g237.symm))))).other W249 (Or.inl (Nat.ne_of_lt (Nat.lt_of_lt_of_le (Nat.lt_of_lt_of_le lt_x29 (Nat.le_trans (Nat.le_trans (Nat.le_trans (Nat.le_trans (Nat.le_trans (Nat.le_trans Kq32.1 Kq35.1) E222.1) (Keep.of_wr W225).1) (Keep.of_wr W228).1) (Keep.of_wr W231).1) (Keep.of_wr W234).1)) (Nat.le_of_eq g237.symm))))), ((((((((((((So29.2.2.2.1.keep Kq32 nin0).keep Kq35 nin0).ext E222).other W225 (Nat.ne_of_lt (Nat.lt_of_lt_of_le (Nat.lt_of_lt_of_le lt_t29 (Nat.le_trans Kq32.1 Kq35.1)) (Nat.le_of_eq g222.symm)))).other W228 (Nat.ne_of_lt (Nat.lt_of_lt_of_le (Nat.lt_of_lt_of_le lt_t29 (Nat.le_trans Kq32.1 Kq35.1)) (Nat.le_of_eq g222.symm)))).other W231 (Nat.ne_of_lt (Nat.lt_of_lt_of_le (Nat.lt_of_lt_of_le lt_t29 (Nat.le_trans Kq32.1 Kq35.1)) (Nat.le_of_eq g222.symm)))).other W234 (Nat.ne_of_lt (Nat.lt_of_lt_of_le (Nat.lt_of_lt_of_le lt_t29 (Nat.le_trans Kq32.1 Kq35.1)) (Nat.le_of_eq g222.symm)))).ext E237).other W240 (Nat.ne_of_lt (Nat.lt_of_lt_of_le (Nat.lt_of_lt_of_le lt_t29 (Nat.le_trans (Nat.le_trans (Nat.le_trans (Nat.le_trans (Nat.le_trans (Nat.le_trans Kq32.1 Kq35.1) E222.1) (Keep.of_wr W225).1) (Keep.of_wr W228).1) (Keep.of_wr W231).1) (Keep.of_wr W234).1)) (Nat.le_of_eq g237.symm)))).other W243 (Nat.ne_of_lt (Nat.lt_of_lt_of_le (Nat.lt_of_lt_of_le lt_t29 (Nat.le_trans (Nat.le_trans (Nat.le_trans (Nat.le_trans (Nat.le_trans (Nat.le_trans Kq32.1 Kq35.1) E222.1) (Keep.of_wr W225).1) (Keep.of_wr W228).1) (Keep.of_wr W231).1) (Keep.of_wr W234).1)) (Nat.le_of_eq g237.symm)))).other W246 (Nat.ne_of_lt (Nat.lt_of_lt_of_le (Nat.lt_of_lt_of_le lt_t29 (Nat.le_trans (Nat.le_trans (Nat.le_trans (Nat.le_trans (Nat.le_trans (Nat.le_trans Kq32.1 Kq35.1) E222.1) (Keep.of_wr W225).1) (Keep.of_wr W228).1) (Keep.of_wr W231).1) (Keep.of_wr W234).1)) (Nat.le_of_eq g237.symm)))).other W249 (Nat.ne_of_lt (Nat.lt_of_lt_of_le (Nat.lt_of_lt_of_le lt_t29 (Nat.le_trans (Nat.le_trans (Nat.le_trans (Nat.le_trans (Nat.le_trans (Nat.le_trans Kq32.1 Kq35.1) E222.1) (Keep.of_wr W225).1) (Keep.of_wr W228).1) (Keep.of_wr W231).1) (Keep.of_wr W234).1)) (Nat.le_of_eq g237.symm)))), So29.2.2.2.2.1, So29.2.2.2.2.2⟩ O2 P5 ((((((((((((((X00.keep Kq26 all0).keep Kq29 all0).keep Kq32 all0).keep Kq35 all0).ext E222).wr W225 (Nat.le_trans Z0 (Nat.le_trans K35.1 (Nat.le_of_eq g222.symm)))).wr W228 (Nat.le_trans Z0 (Nat.le_trans K35.1 (Nat.le_of_eq g222.symm)))).wr W231 (Nat.le_trans Z0 (Nat.le_trans K35.1 (Nat.le_of_eq g222.symm)))).wr W234 (Nat.le_trans Z0 (Nat.le_trans K35.1 (Nat.le_of_eq g222.symm)))).ext E237).wr W240 (Nat.le_trans Z0 (Nat.le_trans K234.1 (Nat.le_of_eq g237.symm)))).wr W243 (Nat.le_trans Z0 (Nat.le_trans K234.1 (Nat.le_of_eq g237.symm)))).wr W246 (Nat.le_trans Z0 (Nat.le_trans K234.1 (Nat.le_of_eq g237.symm)))).wr W249 (Nat.le_trans Z0 (Nat.le_trans K234.1 (Nat.le_of_eq g237.symm))))) hZ35 (hw _ (List.mem_of_getElem? (i := 61) rfl)) (hw _ (List.mem_of_getElem? (i := 2) rfl)) (by decide) (by decide)) q281a q281c (g := (mkF m 287 #[.val (.int p0), .val (.int p1), .val (.int p2), .val (.int p3), .val (.int p4), .val (.int p5), .val (.int k3), .val (.ref pk), .val (.int (4 : Int32)), .val (.int (1 : Int32)), .val (.ref x26), .val (.ref x29), .val (.ref x32), .val (.ref x35), .val (.ref b222), .val (.ref b237), .val (.int he), .val (.int (3 : Int32)), .val (.int ex), .unset] [(.int (1 : Int32)), (.ref b222), (.ref pk)])) rfl (by rw [hml]; rfl) (Steps.refl _) (argsL := [(.ref b222), (.int (1 : Int32))]) (rest := []) (lenOf pd_oaLjavaslangsStringeIcI rfl) rfl (by show 2 * 0 + _ ≤ _; exact Nat.le_of_eq rfl) (hb hby at_287) (fun _ _ => ⟨rfl, e249, (by decide : 26 + 0 ≤ _), (by decide : 56 + 0 ≤ _)⟩)
          dsimp only [Pt.U, Pt.locs, Pt.cells, Pt.slots] at X281 l281 y281 z281 st281 hQ281
          subst l281 y281 z281
          obtain ⟨rfl, Nq281, eq281⟩ := hQ281
          have c282 : Steps p.tables e below S0 (T281.setTop (mkF m 290 #[.val (.int p0), .val (.int p1), .val (.int p2), .val (.int p3), .val (.int p4), .val (.int p5), .val (.int k3), .val (.ref pk), .val (.int (4 : Int32)), .val (.int (1 : Int32)), .val (.ref x26), .val (.ref x29), .val (.ref x32), .val (.ref x35), .val (.ref b222), .val (.ref b237), .val (.int he), .val (.int (3 : Int32)), .val (.int ex), .unset] [(.int (own_span rr te (4 : Int32) (1 : Int32) cs29.length))])) := c280.trans (st281)
          have N281 := Fr.app N249 Nq281
          have c283 : Steps p.tables e below S0 (T281.setTop (mkF m 304 #[.val (.int p0), .val (.int p1), .val (.int p2), .val (.int p3), .val (.int p4), .val (.int p5), .val (.int k3), .val (.ref pk), .val (.int (4 : Int32)), .val (.int (1 : Int32)), .val (.ref x26), .val (.ref x29), .val (.ref x32), .val (.ref x35), .val (.ref b222), .val (.ref b237), .val (.int he), .val (.int (3 : Int32)), .val (.int ex), .val (.int (own_span rr te (4 : Int32) (1 : Int32) cs29.length))] [(.int (1 : Int32))])) := c282.trans (by
            show Steps p.tables e below (T281.setTop (mkF m 290 #[.val (.int p0), .val (.int p1), .val (.int p2), .val (.int p3), .val (.int p4), .val (.int p5), .val (.int k3), .val (.ref pk), .val (.int (4 : Int32)), .val (.int (1 : Int32)), .val (.ref x26), .val (.ref x29), .val (.ref x32), .val (.ref x35), .val (.ref b222), .val (.ref b237), .val (.int he), .val (.int (3 : Int32)), .val (.int ex), .unset] [(.int (own_span rr te (4 : Int32) (1 : Int32) cs29.length))])) _
            refine XS.istore X281.here hx rfl (hb hby at_290) rfl (l' := #[.val (.int p0), .val (.int p1), .val (.int p2), .val (.int p3), .val (.int p4), .val (.int p5), .val (.int k3), .val (.ref pk), .val (.int (4 : Int32)), .val (.int (1 : Int32)), .val (.ref x26), .val (.ref x29), .val (.ref x32), .val (.ref x35), .val (.ref b222), .val (.ref b237), .val (.int he), .val (.int (3 : Int32)), .val (.int ex), .val (.int (own_span rr te (4 : Int32) (1 : Int32) cs29.length))]) rfl ?_
            refine XS.iload X281.here hx rfl (hb hby at_292) rfl ?_
            refine XS.iload X281.here hx rfl (hb hby at_294) rfl ?_
            refine XS.icmpNo X281.here hx rfl (hb hby at_296) rfl (teq (own_ex41 hkk em29 hhe hex)).2 ?_
            show Steps p.tables e below (T281.setTop (mkF m 299 #[.val (.int p0), .val (.int p1), .val (.int p2), .val (.int p3), .val (.int p4), .val (.int p5), .val (.int k3), .val (.ref pk), .val (.int (4 : Int32)), .val (.int (1 : Int32)), .val (.ref x26), .val (.ref x29), .val (.ref x32), .val (.ref x35), .val (.ref b222), .val (.ref b237), .val (.int he), .val (.int (3 : Int32)), .val (.int ex), .val (.int (own_span rr te (4 : Int32) (1 : Int32) cs29.length))] [])) _
            refine XS.iconst X281.here hx rfl (hb hby at_299) ?_
            refine XS.goto X281.here hx rfl (pc0 := 300) (pc' := 304) rfl (hb hby at_300) (by decide) (by decide) ?_
            exact Steps.refl _)
          obtain ⟨fs, hr, hrun, hended, hW⟩ := X281.leaveW hS35 (by rw [eq281]; exact (Nat.le_trans (Nat.le_refl _) (Nat.le_trans (Nat.le_trans (Nat.le_trans (Nat.le_trans (Nat.le_trans (Nat.le_trans (Nat.le_trans (Nat.le_trans (Nat.le_trans E222.1 (Keep.of_wr W225).1) (Keep.of_wr W228).1) (Keep.of_wr W231).1) (Keep.of_wr W234).1) E237.1) (Keep.of_wr W240).1) (Keep.of_wr W243).1) (Keep.of_wr W246).1) (Keep.of_wr W249).1))) (v := some (.int (1 : Int32))) (fun h => by rw [Bd.returns] at h; cases h)
          refine ⟨_, _, c283.trans (retOut X281 hx Bd.returns rfl (Or.inl ⟨rfl, by simp, _, rfl⟩) (hb hby at_304) hr), hrun, hended, _, _, rfl, ?_, ?_, hW.1, hW.2.1, hW.2.2.1, hW.2.2.2.mono (by decide) (by decide)⟩
          · show Q0 Z  h0 n0 _ T281.heap _
            rw [eq281]
            exact ⟨rfl, N281⟩
          · show CHr Z EL s.vm s.heap T281.vm T281.heap
            rw [hh, eq281]; exact R249.trans (CHv.at X281 hZ35 hEL R249.1)
        · rw [ei] at c251
          have c284 : Steps p.tables e below S0 (T249.setTop (mkF m 209 #[.val (.int p0), .val (.int p1), .val (.int p2), .val (.int p3), .val (.int p4), .val (.int p5), .val (.int k3), .val (.ref pk), .val (.int (4 : Int32)), .val (.int (2 : Int32)), .val (.ref x26), .val (.ref x29), .val (.ref x32), .val (.ref x35), .val (.ref b222), .val (.ref b237), .unset, .unset, .unset, .unset] [(.int (2 : Int32)), (.ref b237)])) := c251.trans (by
            show Steps p.tables e below (T249.setTop (mkF m 205 #[.val (.int p0), .val (.int p1), .val (.int p2), .val (.int p3), .val (.int p4), .val (.int p5), .val (.int k3), .val (.ref pk), .val (.int (4 : Int32)), .val (.int (2 : Int32)), .val (.ref x26), .val (.ref x29), .val (.ref x32), .val (.ref x35), .val (.ref b222), .val (.ref b237), .unset, .unset, .unset, .unset] [])) _
            refine XS.aload X249.here hx rfl (hb hby at_205) rfl rfl ?_
            refine XS.iload X249.here hx rfl (hb hby at_207) rfl ?_
            exact Steps.refl _)
          obtain ⟨cl285, Ar285, -, S285, -, Ha285, -⟩ := id V249
          have c286 : Steps p.tables e below S0 (T249.setTop (mkF m 212 #[.val (.int p0), .val (.int p1), .val (.int p2), .val (.int p3), .val (.int p4), .val (.int p5), .val (.int k3), .val (.ref pk), .val (.int (4 : Int32)), .val (.int (2 : Int32)), .val (.ref x26), .val (.ref x29), .val (.ref x32), .val (.ref x35), .val (.ref b222), .val (.ref b237), .unset, .unset, .unset, .unset] [(.int (p4 &&& (3 : Int32)))])) := c284.trans (by
            show Steps p.tables e below (T249.setTop (mkF m 209 #[.val (.int p0), .val (.int p1), .val (.int p2), .val (.int p3), .val (.int p4), .val (.int p5), .val (.int k3), .val (.ref pk), .val (.int (4 : Int32)), .val (.int (2 : Int32)), .val (.ref x26), .val (.ref x29), .val (.ref x32), .val (.ref x35), .val (.ref b222), .val (.ref b237), .unset, .unset, .unset, .unset] [(.int (2 : Int32)), (.ref b237)])) _
            refine X249.iaload hx (j := (2 : Int32)) (v := (.int p4)) (by rw [e249]; exact Ar285.1) (State.isArrayOf_alike hZ35.alike Ar285.2.1) Ar285.2.2 (inb_of S285 ⟨by decide, by decide⟩) (Ha285.at (inb_of S285 ⟨by decide, by decide⟩) rfl) (g := (mkF m 209 #[.val (.int p0), .val (.int p1), .val (.int p2), .val (.int p3), .val (.int p4), .val (.int p5), .val (.int k3), .val (.ref pk), .val (.int (4 : Int32)), .val (.int (2 : Int32)), .val (.ref x26), .val (.ref x29), .val (.ref x32), .val (.ref x35), .val (.ref b222), .val (.ref b237), .unset, .unset, .unset, .unset] [(.int (2 : Int32)), (.ref b237)])) rfl rfl (hb hby at_209) _ ?_
            refine XS.iconst X249.here hx rfl (hb hby at_210) ?_
            refine XS.iand X249.here hx rfl (hb hby at_211) rfl ?_
            exact Steps.refl _)
          obtain ⟨he, hhe, c289⟩ : ∃ (he : Int32), he = (if (p4 &&& (3 : Int32)) = (0 : Int32) then (1 : Int32) else (0 : Int32)) ∧ Steps p.tables e below S0 (T249.setTop (mkF m 220 #[.val (.int p0), .val (.int p1), .val (.int p2), .val (.int p3), .val (.int p4), .val (.int p5), .val (.int k3), .val (.ref pk), .val (.int (4 : Int32)), .val (.int (2 : Int32)), .val (.ref x26), .val (.ref x29), .val (.ref x32), .val (.ref x35), .val (.ref b222), .val (.ref b237), .unset, .unset, .unset, .unset] [(.int he)])) := by
            by_cases hq287 : (p4 &&& (3 : Int32)) = (0 : Int32)
            · exact ⟨_, (by rw [if_pos hq287]), c286.trans (by
                show Steps p.tables e below (T249.setTop (mkF m 212 #[.val (.int p0), .val (.int p1), .val (.int p2), .val (.int p3), .val (.int p4), .val (.int p5), .val (.int k3), .val (.ref pk), .val (.int (4 : Int32)), .val (.int (2 : Int32)), .val (.ref x26), .val (.ref x29), .val (.ref x32), .val (.ref x35), .val (.ref b222), .val (.ref b237), .unset, .unset, .unset, .unset] [(.int (p4 &&& (3 : Int32)))])) _
                refine XS.ifNo X249.here hx rfl (hb hby at_212) rfl ((if0 _ _).trans (teq hq287).2) ?_
                refine XS.iconst X249.here hx rfl (hb hby at_215) ?_
                refine XS.goto X249.here hx rfl (pc0 := 216) (pc' := 220) rfl (hb hby at_216) (by decide) (by decide) ?_
                exact Steps.refl _)⟩
            · exact ⟨_, (by rw [if_neg hq287]), c286.trans (by
                show Steps p.tables e below (T249.setTop (mkF m 212 #[.val (.int p0), .val (.int p1), .val (.int p2), .val (.int p3), .val (.int p4), .val (.int p5), .val (.int k3), .val (.ref pk), .val (.int (4 : Int32)), .val (.int (2 : Int32)), .val (.ref x26), .val (.ref x29), .val (.ref x32), .val (.ref x35), .val (.ref b222), .val (.ref b237), .unset, .unset, .unset, .unset] [(.int (p4 &&& (3 : Int32)))])) _
                refine XS.ifYes X249.here hx rfl (pc0 := 212) (pc' := 219) rfl (hb hby at_212) rfl ((if0 _ _).trans (feq hq287).2) (by decide) (by decide) ?_
                refine XS.iconst X249.here hx rfl (hb hby at_219) ?_
                exact Steps.refl _)⟩
          have c290 : Steps p.tables e below S0 (T249.setTop (mkF m 231 #[.val (.int p0), .val (.int p1), .val (.int p2), .val (.int p3), .val (.int p4), .val (.int p5), .val (.int k3), .val (.ref pk), .val (.int (4 : Int32)), .val (.int (2 : Int32)), .val (.ref x26), .val (.ref x29), .val (.ref x32), .val (.ref x35), .val (.ref b222), .val (.ref b237), .val (.int he), .val (.int (2 : Int32)), .unset, .unset] [(.int k3)])) := c289.trans (by
            show Steps p.tables e below (T249.setTop (mkF m 220 #[.val (.int p0), .val (.int p1), .val (.int p2), .val (.int p3), .val (.int p4), .val (.int p5), .val (.int k3), .val (.ref pk), .val (.int (4 : Int32)), .val (.int (2 : Int32)), .val (.ref x26), .val (.ref x29), .val (.ref x32), .val (.ref x35), .val (.ref b222), .val (.ref b237), .unset, .unset, .unset, .unset] [(.int he)])) _
            refine XS.istore X249.here hx rfl (hb hby at_220) rfl (l' := #[.val (.int p0), .val (.int p1), .val (.int p2), .val (.int p3), .val (.int p4), .val (.int p5), .val (.int k3), .val (.ref pk), .val (.int (4 : Int32)), .val (.int (2 : Int32)), .val (.ref x26), .val (.ref x29), .val (.ref x32), .val (.ref x35), .val (.ref b222), .val (.ref b237), .val (.int he), .unset, .unset, .unset]) rfl ?_
            refine XS.iload X249.here hx rfl (hb hby at_222) rfl ?_
            refine XS.iload X249.here hx rfl (hb hby at_224) rfl ?_
            refine XS.isub X249.here hx rfl (hb hby at_226) rfl ?_
            show Steps p.tables e below (T249.setTop (mkF m 227 #[.val (.int p0), .val (.int p1), .val (.int p2), .val (.int p3), .val (.int p4), .val (.int p5), .val (.int k3), .val (.ref pk), .val (.int (4 : Int32)), .val (.int (2 : Int32)), .val (.ref x26), .val (.ref x29), .val (.ref x32), .val (.ref x35), .val (.ref b222), .val (.ref b237), .val (.int he), .unset, .unset, .unset] [(.int (2 : Int32))])) _
            refine XS.istore X249.here hx rfl (hb hby at_227) rfl (l' := #[.val (.int p0), .val (.int p1), .val (.int p2), .val (.int p3), .val (.int p4), .val (.int p5), .val (.int k3), .val (.ref pk), .val (.int (4 : Int32)), .val (.int (2 : Int32)), .val (.ref x26), .val (.ref x29), .val (.ref x32), .val (.ref x35), .val (.ref b222), .val (.ref b237), .val (.int he), .val (.int (2 : Int32)), .unset, .unset]) rfl ?_
            refine XS.iload X249.here hx rfl (hb hby at_229) rfl ?_
            exact Steps.refl _)
          obtain ⟨ex, hex, c295⟩ : ∃ (ex : Int32), ex = (if k3 = (0 : Int32) then (if he = (0 : Int32) then (1 : Int32) else (0 : Int32)) else (2 : Int32)) ∧ Steps p.tables e below S0 (T249.setTop (mkF m 281 #[.val (.int p0), .val (.int p1), .val (.int p2), .val (.int p3), .val (.int p4), .val (.int p5), .val (.int k3), .val (.ref pk), .val (.int (4 : Int32)), .val (.int (2 : Int32)), .val (.ref x26), .val (.ref x29), .val (.ref x32), .val (.ref x35), .val (.ref b222), .val (.ref b237), .val (.int he), .val (.int (2 : Int32)), .val (.int ex), .unset] [])) := by
            by_cases hq291 : k3 = (0 : Int32)
            · by_cases hq292 : he = (0 : Int32)
              · exact ⟨_, (by rw [if_pos hq291, if_pos hq292]), c290.trans (by
                  show Steps p.tables e below (T249.setTop (mkF m 231 #[.val (.int p0), .val (.int p1), .val (.int p2), .val (.int p3), .val (.int p4), .val (.int p5), .val (.int k3), .val (.ref pk), .val (.int (4 : Int32)), .val (.int (2 : Int32)), .val (.ref x26), .val (.ref x29), .val (.ref x32), .val (.ref x35), .val (.ref b222), .val (.ref b237), .val (.int he), .val (.int (2 : Int32)), .unset, .unset] [(.int k3)])) _
                  refine XS.ifNo X249.here hx rfl (hb hby at_231) rfl ((if0 _ _).trans (teq hq291).2) ?_
                  refine XS.iload X249.here hx rfl (hb hby at_234) rfl ?_
                  refine XS.ifYes X249.here hx rfl (pc0 := 236) (pc' := 243) rfl (hb hby at_236) rfl ((if0 _ _).trans (teq hq292).1) (by decide) (by decide) ?_
                  refine XS.iconst X249.here hx rfl (hb hby at_243) ?_
                  show Steps p.tables e below (T249.setTop (mkF m 244 #[.val (.int p0), .val (.int p1), .val (.int p2), .val (.int p3), .val (.int p4), .val (.int p5), .val (.int k3), .val (.ref pk), .val (.int (4 : Int32)), .val (.int (2 : Int32)), .val (.ref x26), .val (.ref x29), .val (.ref x32), .val (.ref x35), .val (.ref b222), .val (.ref b237), .val (.int he), .val (.int (2 : Int32)), .unset, .unset] [(.int (1 : Int32))])) _
                  refine XS.istore X249.here hx rfl (hb hby at_244) rfl (l' := #[.val (.int p0), .val (.int p1), .val (.int p2), .val (.int p3), .val (.int p4), .val (.int p5), .val (.int k3), .val (.ref pk), .val (.int (4 : Int32)), .val (.int (2 : Int32)), .val (.ref x26), .val (.ref x29), .val (.ref x32), .val (.ref x35), .val (.ref b222), .val (.ref b237), .val (.int he), .val (.int (2 : Int32)), .val (.int (1 : Int32)), .unset]) rfl ?_
                  refine XS.goto X249.here hx rfl (pc0 := 246) (pc' := 281) rfl (hb hby at_246) (by decide) (by decide) ?_
                  exact Steps.refl _)⟩
              · exact ⟨_, (by rw [if_pos hq291, if_neg hq292]), c290.trans (by
                  show Steps p.tables e below (T249.setTop (mkF m 231 #[.val (.int p0), .val (.int p1), .val (.int p2), .val (.int p3), .val (.int p4), .val (.int p5), .val (.int k3), .val (.ref pk), .val (.int (4 : Int32)), .val (.int (2 : Int32)), .val (.ref x26), .val (.ref x29), .val (.ref x32), .val (.ref x35), .val (.ref b222), .val (.ref b237), .val (.int he), .val (.int (2 : Int32)), .unset, .unset] [(.int k3)])) _
                  refine XS.ifNo X249.here hx rfl (hb hby at_231) rfl ((if0 _ _).trans (teq hq291).2) ?_
                  refine XS.iload X249.here hx rfl (hb hby at_234) rfl ?_
                  refine XS.ifNo X249.here hx rfl (hb hby at_236) rfl ((if0 _ _).trans (feq hq292).1) ?_
                  refine XS.iconst X249.here hx rfl (hb hby at_239) ?_
                  show Steps p.tables e below (T249.setTop (mkF m 240 #[.val (.int p0), .val (.int p1), .val (.int p2), .val (.int p3), .val (.int p4), .val (.int p5), .val (.int k3), .val (.ref pk), .val (.int (4 : Int32)), .val (.int (2 : Int32)), .val (.ref x26), .val (.ref x29), .val (.ref x32), .val (.ref x35), .val (.ref b222), .val (.ref b237), .val (.int he), .val (.int (2 : Int32)), .unset, .unset] [(.int (0 : Int32))])) _
                  refine XS.goto X249.here hx rfl (pc0 := 240) (pc' := 244) rfl (hb hby at_240) (by decide) (by decide) ?_
                  refine XS.istore X249.here hx rfl (hb hby at_244) rfl (l' := #[.val (.int p0), .val (.int p1), .val (.int p2), .val (.int p3), .val (.int p4), .val (.int p5), .val (.int k3), .val (.ref pk), .val (.int (4 : Int32)), .val (.int (2 : Int32)), .val (.ref x26), .val (.ref x29), .val (.ref x32), .val (.ref x35), .val (.ref b222), .val (.ref b237), .val (.int he), .val (.int (2 : Int32)), .val (.int (0 : Int32)), .unset]) rfl ?_
                  refine XS.goto X249.here hx rfl (pc0 := 246) (pc' := 281) rfl (hb hby at_246) (by decide) (by decide) ?_
                  exact Steps.refl _)⟩
            · by_cases hq293 : k3 = (1 : Int32)
              · exact ⟨_, (by rw [if_neg hq291]), c290.trans (by
                  show Steps p.tables e below (T249.setTop (mkF m 231 #[.val (.int p0), .val (.int p1), .val (.int p2), .val (.int p3), .val (.int p4), .val (.int p5), .val (.int k3), .val (.ref pk), .val (.int (4 : Int32)), .val (.int (2 : Int32)), .val (.ref x26), .val (.ref x29), .val (.ref x32), .val (.ref x35), .val (.ref b222), .val (.ref b237), .val (.int he), .val (.int (2 : Int32)), .unset, .unset] [(.int k3)])) _
                  refine XS.ifYes X249.here hx rfl (pc0 := 231) (pc' := 249) rfl (hb hby at_231) rfl ((if0 _ _).trans (feq hq291).2) (by decide) (by decide) ?_
                  refine XS.iload X249.here hx rfl (hb hby at_249) rfl ?_
                  refine XS.iconst X249.here hx rfl (hb hby at_251) ?_
                  refine XS.icmpNo X249.here hx rfl (hb hby at_252) rfl (teq hq293).2 ?_
                  show Steps p.tables e below (T249.setTop (mkF m 255 #[.val (.int p0), .val (.int p1), .val (.int p2), .val (.int p3), .val (.int p4), .val (.int p5), .val (.int k3), .val (.ref pk), .val (.int (4 : Int32)), .val (.int (2 : Int32)), .val (.ref x26), .val (.ref x29), .val (.ref x32), .val (.ref x35), .val (.ref b222), .val (.ref b237), .val (.int he), .val (.int (2 : Int32)), .unset, .unset] [])) _
                  refine XS.iload X249.here hx rfl (hb hby at_255) rfl ?_
                  refine XS.iconst X249.here hx rfl (hb hby at_257) ?_
                  refine XS.icmpYes X249.here hx rfl (pc0 := 258) (pc' := 270) rfl (hb hby at_258) rfl (feq (by decide : ¬ ((2 : Int32) = (1 : Int32)))).2 (by decide) (by decide) ?_
                  refine XS.iload X249.here hx rfl (hb hby at_270) rfl ?_
                  show Steps p.tables e below (T249.setTop (mkF m 272 #[.val (.int p0), .val (.int p1), .val (.int p2), .val (.int p3), .val (.int p4), .val (.int p5), .val (.int k3), .val (.ref pk), .val (.int (4 : Int32)), .val (.int (2 : Int32)), .val (.ref x26), .val (.ref x29), .val (.ref x32), .val (.ref x35), .val (.ref b222), .val (.ref b237), .val (.int he), .val (.int (2 : Int32)), .unset, .unset] [(.int (2 : Int32))])) _
                  refine XS.istore X249.here hx rfl (hb hby at_272) rfl (l' := #[.val (.int p0), .val (.int p1), .val (.int p2), .val (.int p3), .val (.int p4), .val (.int p5), .val (.int k3), .val (.ref pk), .val (.int (4 : Int32)), .val (.int (2 : Int32)), .val (.ref x26), .val (.ref x29), .val (.ref x32), .val (.ref x35), .val (.ref b222), .val (.ref b237), .val (.int he), .val (.int (2 : Int32)), .val (.int (2 : Int32)), .unset]) rfl ?_
                  refine XS.goto X249.here hx rfl (pc0 := 274) (pc' := 281) rfl (hb hby at_274) (by decide) (by decide) ?_
                  exact Steps.refl _)⟩
              · exact ⟨_, (by rw [if_neg hq291]), c290.trans (by
                  show Steps p.tables e below (T249.setTop (mkF m 231 #[.val (.int p0), .val (.int p1), .val (.int p2), .val (.int p3), .val (.int p4), .val (.int p5), .val (.int k3), .val (.ref pk), .val (.int (4 : Int32)), .val (.int (2 : Int32)), .val (.ref x26), .val (.ref x29), .val (.ref x32), .val (.ref x35), .val (.ref b222), .val (.ref b237), .val (.int he), .val (.int (2 : Int32)), .unset, .unset] [(.int k3)])) _
                  refine XS.ifYes X249.here hx rfl (pc0 := 231) (pc' := 249) rfl (hb hby at_231) rfl ((if0 _ _).trans (feq hq291).2) (by decide) (by decide) ?_
                  refine XS.iload X249.here hx rfl (hb hby at_249) rfl ?_
                  refine XS.iconst X249.here hx rfl (hb hby at_251) ?_
                  refine XS.icmpYes X249.here hx rfl (pc0 := 252) (pc' := 277) rfl (hb hby at_252) rfl (feq hq293).2 (by decide) (by decide) ?_
                  show Steps p.tables e below (T249.setTop (mkF m 277 #[.val (.int p0), .val (.int p1), .val (.int p2), .val (.int p3), .val (.int p4), .val (.int p5), .val (.int k3), .val (.ref pk), .val (.int (4 : Int32)), .val (.int (2 : Int32)), .val (.ref x26), .val (.ref x29), .val (.ref x32), .val (.ref x35), .val (.ref b222), .val (.ref b237), .val (.int he), .val (.int (2 : Int32)), .unset, .unset] [])) _
                  refine XS.iload X249.here hx rfl (hb hby at_277) rfl ?_
                  refine XS.istore X249.here hx rfl (hb hby at_279) rfl (l' := #[.val (.int p0), .val (.int p1), .val (.int p2), .val (.int p3), .val (.int p4), .val (.int p5), .val (.int k3), .val (.ref pk), .val (.int (4 : Int32)), .val (.int (2 : Int32)), .val (.ref x26), .val (.ref x29), .val (.ref x32), .val (.ref x35), .val (.ref b222), .val (.ref b237), .val (.int he), .val (.int (2 : Int32)), .val (.int (2 : Int32)), .unset]) rfl ?_
                  exact Steps.refl _)⟩
          have c296 : Steps p.tables e below S0 (T249.setTop (mkF m 287 #[.val (.int p0), .val (.int p1), .val (.int p2), .val (.int p3), .val (.int p4), .val (.int p5), .val (.int k3), .val (.ref pk), .val (.int (4 : Int32)), .val (.int (2 : Int32)), .val (.ref x26), .val (.ref x29), .val (.ref x32), .val (.ref x35), .val (.ref b222), .val (.ref b237), .val (.int he), .val (.int (2 : Int32)), .val (.int ex), .unset] [(.int (2 : Int32)), (.ref b222), (.ref pk)])) := c295.trans (by
            show Steps p.tables e below (T249.setTop (mkF m 281 #[.val (.int p0), .val (.int p1), .val (.int p2), .val (.int p3), .val (.int p4), .val (.int p5), .val (.int k3), .val (.ref pk), .val (.int (4 : Int32)), .val (.int (2 : Int32)), .val (.ref x26), .val (.ref x29), .val (.ref x32), .val (.ref x35), .val (.ref b222), .val (.ref b237), .val (.int he), .val (.int (2 : Int32)), .val (.int ex), .unset] [])) _
            refine XS.aload X249.here hx rfl (hb hby at_281) rfl rfl ?_
            refine XS.aload X249.here hx rfl (hb hby at_283) rfl rfl ?_
            refine XS.iload X249.here hx rfl (hb hby at_285) rfl ?_
            exact Steps.refl _)
          obtain ⟨cq297, kq297, q297a, q297b, q297c⟩ := isOf hZ35 e249 (((((((((((((((xpk.ext X00.2).keep Kq26).keep Kq29).keep Kq32).keep Kq35).ext E222).wr W225).wr W228).wr W231).wr W234).ext E237).wr W240).wr W243).wr W246).wr W249)
          obtain ⟨_, _, ⟨T297, L297, kk297, nn297⟩, -, X297, ⟨Lc297, hQ297, l297, y297, z297⟩, st297⟩ := X249.virtualBack hx (y := (⟨"com/example/libroute/libroute/pattern/ParameterKind", "span", "([Ljava/lang/String;I)I"⟩ : MethodName)) (z := (⟨"com/example/libroute/libroute/pattern/ParameterKind", "span", "([Ljava/lang/String;I)I"⟩ : MethodName)) hown35 (mvT hZ35 (hw _ (List.mem_of_getElem? (i := 57) rfl))) (mvT hZ35 (hw _ (List.mem_of_getElem? (i := 58) rfl))) (notFace_of_selects (args := #[]) (mvT hZ35 (hw _ (List.mem_of_getElem? (i := 60) rfl)))) (mvT hZ35 (hw _ (List.mem_of_getElem? (i := 60) rfl))) (mvT hZ35 (hw _ (List.mem_of_getElem? (i := 59) rfl))) (by decide) (backOf (W := 0) (rmSp l Z a0 hw [] pk b222 rr te (4 : Int32) (2 : Int32) _ [(.ref x26), (.ref x29), (.ref x32), (.ref x35)] x32 t32 kb32 cs32 G1 h249 n0 z249 (((((((((((((((Fp.ext X00.2).keep Kq26 nin0).keep Kq29 nin0).keep Kq32 nin0).keep Kq35 nin0).ext E222).other W225 (Or.inl (Nat.ne_of_lt (Nat.lt_of_lt_of_le (Nat.lt_of_lt_of_le (xpk.ext X00.2).lt (Nat.le_trans (Nat.le_trans (Nat.le_trans Kq26.1 Kq29.1) Kq32.1) Kq35.1)) (Nat.le_of_eq g222.symm))))).other W228 (Or.inl (Nat.ne_of_lt (Nat.lt_of_lt_of_le (Nat.lt_of_lt_of_le (xpk.ext X00.2).lt (Nat.le_trans (Nat.le_trans (Nat.le_trans Kq26.1 Kq29.1) Kq32.1) Kq35.1)) (Nat.le_of_eq g222.symm))))).other W231 (Or.inl (Nat.ne_of_lt (Nat.lt_of_lt_of_le (Nat.lt_of_lt_of_le (xpk.ext X00.2).lt (Nat.le_trans (Nat.le_trans (Nat.le_trans Kq26.1 Kq29.1) Kq32.1) Kq35.1)) (Nat.le_of_eq g222.symm))))).other W234 (Or.inl (Nat.ne_of_lt (Nat.lt_of_lt_of_le (Nat.lt_of_lt_of_le (xpk.ext X00.2).lt (Nat.le_trans (Nat.le_trans (Nat.le_trans Kq26.1 Kq29.1) Kq32.1) Kq35.1)) (Nat.le_of_eq g222.symm))))).ext E237).other W240 (Or.inl (Nat.ne_of_lt (Nat.lt_of_lt_of_le (Nat.lt_of_lt_of_le (xpk.ext X00.2).lt (Nat.le_trans (Nat.le_trans (Nat.le_trans (Nat.le_trans (Nat.le_trans (Nat.le_trans (Nat.le_trans (Nat.le_trans Kq26.1 Kq29.1) Kq32.1) Kq35.1) E222.1) (Keep.of_wr W225).1) (Keep.of_wr W228).1) (Keep.of_wr W231).1) (Keep.of_wr W234).1)) (Nat.le_of_eq g237.symm))))).other W243 (Or.inl (Nat.ne_of_lt (Nat.lt_of_lt_of_le (Nat.lt_of_lt_of_le (xpk.ext X00.2).lt (Nat.le_trans (Nat.le_trans (Nat.le_trans (Nat.le_trans (Nat.le_trans (Nat.le_trans (Nat.le_trans (Nat.le_trans Kq26.1 Kq29.1) Kq32.1) Kq35.1) E222.1) (Keep.of_wr W225).1) (Keep.of_wr W228).1) (Keep.of_wr W231).1) (Keep.of_wr W234).1)) (Nat.le_of_eq g237.symm))))).other W246 (Or.inl (Nat.ne_of_lt (Nat.lt_of_lt_of_le (Nat.lt_of_lt_of_le (xpk.ext X00.2).lt (Nat.le_trans (Nat.le_trans (Nat.le_trans (Nat.le_trans (Nat.le_trans (Nat.le_trans (Nat.le_trans (Nat.le_trans Kq26.1 Kq29.1) Kq32.1) Kq35.1) E222.1) (Keep.of_wr W225).1) (Keep.of_wr W228).1) (Keep.of_wr W231).1) (Keep.of_wr W234).1)) (Nat.le_of_eq g237.symm))))).other W249 (Or.inl (Nat.ne_of_lt (Nat.lt_of_lt_of_le (Nat.lt_of_lt_of_le (xpk.ext X00.2).lt (Nat.le_trans (Nat.le_trans (Nat.le_trans (Nat.le_trans (Nat.le_trans (Nat.le_trans (Nat.le_trans (Nat.le_trans Kq26.1 Kq29.1) Kq32.1) Kq35.1) E222.1) (Keep.of_wr W225).1) (Keep.of_wr W228).1) (Keep.of_wr W231).1) (Keep.of_wr W234).1)) (Nat.le_of_eq g237.symm))))) (((((((((((((((Gp.ext X00.2).keep Kq26 nin0).keep Kq29 nin0).keep Kq32 nin0).keep Kq35 nin0).ext E222).other W225 (Or.inl (Nat.ne_of_lt (Nat.lt_of_lt_of_le (Nat.lt_of_lt_of_le (xpk.ext X00.2).lt (Nat.le_trans (Nat.le_trans (Nat.le_trans Kq26.1 Kq29.1) Kq32.1) Kq35.1)) (Nat.le_of_eq g222.symm))))).other W228 (Or.inl (Nat.ne_of_lt (Nat.lt_of_lt_of_le (Nat.lt_of_lt_of_le (xpk.ext X00.2).lt (Nat.le_trans (Nat.le_trans (Nat.le_trans Kq26.1 Kq29.1) Kq32.1) Kq35.1)) (Nat.le_of_eq g222.symm))))).other W231 (Or.inl (Nat.ne_of_lt (Nat.lt_of_lt_of_le (Nat.lt_of_lt_of_le (xpk.ext X00.2).lt (Nat.le_trans (Nat.le_trans (Nat.le_trans Kq26.1 Kq29.1) Kq32.1) Kq35.1)) (Nat.le_of_eq g222.symm))))).other W234 (Or.inl (Nat.ne_of_lt (Nat.lt_of_lt_of_le (Nat.lt_of_lt_of_le (xpk.ext X00.2).lt (Nat.le_trans (Nat.le_trans (Nat.le_trans Kq26.1 Kq29.1) Kq32.1) Kq35.1)) (Nat.le_of_eq g222.symm))))).ext E237).other W240 (Or.inl (Nat.ne_of_lt (Nat.lt_of_lt_of_le (Nat.lt_of_lt_of_le (xpk.ext X00.2).lt (Nat.le_trans (Nat.le_trans (Nat.le_trans (Nat.le_trans (Nat.le_trans (Nat.le_trans (Nat.le_trans (Nat.le_trans Kq26.1 Kq29.1) Kq32.1) Kq35.1) E222.1) (Keep.of_wr W225).1) (Keep.of_wr W228).1) (Keep.of_wr W231).1) (Keep.of_wr W234).1)) (Nat.le_of_eq g237.symm))))).other W243 (Or.inl (Nat.ne_of_lt (Nat.lt_of_lt_of_le (Nat.lt_of_lt_of_le (xpk.ext X00.2).lt (Nat.le_trans (Nat.le_trans (Nat.le_trans (Nat.le_trans (Nat.le_trans (Nat.le_trans (Nat.le_trans (Nat.le_trans Kq26.1 Kq29.1) Kq32.1) Kq35.1) E222.1) (Keep.of_wr W225).1) (Keep.of_wr W228).1) (Keep.of_wr W231).1) (Keep.of_wr W234).1)) (Nat.le_of_eq g237.symm))))).other W246 (Or.inl (Nat.ne_of_lt (Nat.lt_of_lt_of_le (Nat.lt_of_lt_of_le (xpk.ext X00.2).lt (Nat.le_trans (Nat.le_trans (Nat.le_trans (Nat.le_trans (Nat.le_trans (Nat.le_trans (Nat.le_trans (Nat.le_trans Kq26.1 Kq29.1) Kq32.1) Kq35.1) E222.1) (Keep.of_wr W225).1) (Keep.of_wr W228).1) (Keep.of_wr W231).1) (Keep.of_wr W234).1)) (Nat.le_of_eq g237.symm))))).other W249 (Or.inl (Nat.ne_of_lt (Nat.lt_of_lt_of_le (Nat.lt_of_lt_of_le (xpk.ext X00.2).lt (Nat.le_trans (Nat.le_trans (Nat.le_trans (Nat.le_trans (Nat.le_trans (Nat.le_trans (Nat.le_trans (Nat.le_trans Kq26.1 Kq29.1) Kq32.1) Kq35.1) E222.1) (Keep.of_wr W225).1) (Keep.of_wr W228).1) (Keep.of_wr W231).1) (Keep.of_wr W234).1)) (Nat.le_of_eq g237.symm))))) (((((V234.ext E237).other W240 (Nat.ne_of_lt (Nat.lt_of_lt_of_le (Nat.lt_of_lt_of_le lt_b222 (Nat.le_trans (Nat.le_trans (Nat.le_trans (Keep.of_wr W225).1 (Keep.of_wr W228).1) (Keep.of_wr W231).1) (Keep.of_wr W234).1)) (Nat.le_of_eq g237.symm)))).other W243 (Nat.ne_of_lt (Nat.lt_of_lt_of_le (Nat.lt_of_lt_of_le lt_b222 (Nat.le_trans (Nat.le_trans (Nat.le_trans (Keep.of_wr W225).1 (Keep.of_wr W228).1) (Keep.of_wr W231).1) (Keep.of_wr W234).1)) (Nat.le_of_eq g237.symm)))).other W246 (Nat.ne_of_lt (Nat.lt_of_lt_of_le (Nat.lt_of_lt_of_le lt_b222 (Nat.le_trans (Nat.le_trans (Nat.le_trans (Keep.of_wr W225).1 (Keep.of_wr W228).1) (Keep.of_wr W231).1) (Keep.of_wr W234).1)) (Nat.le_of_eq g237.symm)))).other W249 (Nat.ne_of_lt (Nat.lt_of_lt_of_le (Nat.lt_of_lt_of_le lt_b222 (Nat.le_trans (Nat.le_trans (Nat.le_trans (Keep.of_wr W225).1 (Keep.of_wr W228).1) (Keep.of_wr W231).1) (Keep.of_wr W234).1)) (Nat.le_of_eq g237.symm)))) ⟨by decide, by decide⟩ rfl ⟨(((((((((((So32.1.keep Kq35).ext E222).wr W225).wr W228).wr W231).wr W234).ext E237).wr W240).wr W243).wr W246).wr W249), (((((((((((So32.2.1.keep Kq35 nin0).ext E222).other W225 (Or.inl (Nat.ne_of_lt (Nat.lt_of_lt_of_le (Nat.lt_of_lt_of_le lt_x32 Kq35.1) (Nat.le_of_eq g222.symm))))).other W228 (Or.inl (Nat.ne_of_lt (Nat.lt_of_lt_of_le (Nat.lt_of_lt_of_le lt_x32 Kq35.1) (Nat.le_of_eq g222.symm))))).other W231 (Or.inl (Nat.ne_of_lt (Nat.lt_of_lt_of_le (Nat.lt_of_lt_of_le lt_x32 Kq35.1) (Nat.le_of_eq g222.symm))))).other W234 (Or.inl (Nat.ne_of_lt (Nat.lt_of_lt_of_le (Nat.lt_of_lt_of_le lt_x32 Kq35.1) (Nat.le_of_eq g222.symm))))).ext E237).other W240 (Or.inl (Nat.ne_of_lt (Nat.lt_of_lt_of_le (Nat.lt_of_lt_of_le lt_x32 (Nat.le_trans (Nat.le_trans (Nat.le_trans (Nat.le_trans (Nat.le_trans Kq35.1 E222.1) (Keep.of_wr W225).1) (Keep.of_wr W228).1) (Keep.of_wr W231).1) (Keep.of_wr W234).1)) (Nat.le_of_eq g237.symm))))).other W243 (Or.inl (Nat.ne_of_lt (Nat.lt_of_lt_of_le (Nat.lt_of_lt_of_le lt_x32 (Nat.le_trans (Nat.le_trans (Nat.le_trans (Nat.le_trans (Nat.le_trans Kq35.1 E222.1) (Keep.of_wr W225).1) (Keep.of_wr W228).1) (Keep.of_wr W231).1) (Keep.of_wr W234).1)) (Nat.le_of_eq g237.symm))))).other W246 (Or.inl (Nat.ne_of_lt (Nat.lt_of_lt_of_le (Nat.lt_of_lt_of_le lt_x32 (Nat.le_trans (Nat.le_trans (Nat.le_trans (Nat.le_trans (Nat.le_trans Kq35.1 E222.1) (Keep.of_wr W225).1) (Keep.of_wr W228).1) (Keep.of_wr W231).1) (Keep.of_wr W234).1)) (Nat.le_of_eq g237.symm))))).other W249 (Or.inl (Nat.ne_of_lt (Nat.lt_of_lt_of_le (Nat.lt_of_lt_of_le lt_x32 (Nat.le_trans (Nat.le_trans (Nat.le_trans (Nat.le_trans (Nat.le_trans Kq35.1 E222.1) (Keep.of_wr W225).1) (Keep.of_wr W228).1) (Keep.of_wr W231).1) (Keep.of_wr W234).1)) (Nat.le_of_eq g237.symm))))), (((((((((((So32.2.2.1.keep Kq35 nin0).ext E222).other W225 (Or.inl (Nat.ne_of_lt (Nat.lt_of_lt_of_le (Nat.lt_of_lt_of_le lt_x32 Kq35.1) (Nat.le_of_eq g222.symm))))).other W228 (Or.inl (Nat.ne_of_lt (Nat.lt_of_lt_of_le (Nat.lt_of_lt_of_le lt_x32 Kq35.1) (Nat.le_of_eq g222.symm))))).other W231 (Or.inl (Nat.ne_of_lt (Nat.lt_of_lt_of_le (Nat.lt_of_lt_of_le lt_x32 Kq35.1) (Nat.le_of_eq g222.symm))))).other W234 (Or.inl (Nat.ne_of_lt (Nat.lt_of_lt_of_le (Nat.lt_of_lt_of_le lt_x32 Kq35.1) (Nat.le_of_eq g222.symm))))).ext E237).other W240 (Or.inl (Nat.ne_of_lt (Nat.lt_of_lt_of_le (Nat.lt_of_lt_of_le lt_x32 (Nat.le_trans (Nat.le_trans (Nat.le_trans (Nat.le_trans (Nat.le_trans Kq35.1 E222.1) (Keep.of_wr W225).1) (Keep.of_wr W228).1) (Keep.of_wr W231).1) (Keep.of_wr W234).1)) (Nat.le_of_eq g237.symm))))).other W243 (Or.inl (Nat.ne_of_lt (Nat.lt_of_lt_of_le (Nat.lt_of_lt_of_le lt_x32 (Nat.le_trans (Nat.le_trans (Nat.le_trans (Nat.le_trans (Nat.le_trans Kq35.1 E222.1) (Keep.of_wr W225).1) (Keep.of_wr W228).1) (Keep.of_wr W231).1) (Keep.of_wr W234).1)) (Nat.le_of_eq g237.symm))))).other W246 (Or.inl (Nat.ne_of_lt (Nat.lt_of_lt_of_le (Nat.lt_of_lt_of_le lt_x32 (Nat.le_trans (Nat.le_trans (Nat.le_trans (Nat.le_trans (Nat.le_trans Kq35.1 E222.1) (Keep.of_wr W225).1) (Keep.of_wr W228).1) (Keep.of_wr W231).1) (Keep.of_wr W234).1)) (Nat.le_of_eq g237.symm))))).other W249 (Or.inl (Nat.ne_of_lt (Nat.lt_of_lt_of_le (Nat.lt_of_lt_of_le lt_x32 (Nat.le_trans (Nat.le_trans (Nat.le_trans (Nat.le_trans (Nat.le_trans Kq35.1 E222.1) (Keep.of_wr W225).1) (Keep.of_wr W228).1) (Keep.of_wr W231).1) (Keep.of_wr W234).1)) (Nat.le_of_eq g237.symm))))), (((((((((((So32.2.2.2.1.keep Kq35 nin0).ext E222).other W225 (Nat.ne_of_lt (Nat.lt_of_lt_of_le (Nat.lt_of_lt_of_le lt_t32 Kq35.1) (Nat.le_of_eq g222.symm)))).other W228 (Nat.ne_of_lt (Nat.lt_of_lt_of_le (Nat.lt_of_lt_of_le lt_t32 Kq35.1) (Nat.le_of_eq g222.symm)))).other W231 (Nat.ne_of_lt (Nat.lt_of_lt_of_le (Nat.lt_of_lt_of_le lt_t32 Kq35.1) (Nat.le_of_eq g222.symm)))).other W234 (Nat.ne_of_lt (Nat.lt_of_lt_of_le (Nat.lt_of_lt_of_le lt_t32 Kq35.1) (Nat.le_of_eq g222.symm)))).ext E237).other W240 (Nat.ne_of_lt (Nat.lt_of_lt_of_le (Nat.lt_of_lt_of_le lt_t32 (Nat.le_trans (Nat.le_trans (Nat.le_trans (Nat.le_trans (Nat.le_trans Kq35.1 E222.1) (Keep.of_wr W225).1) (Keep.of_wr W228).1) (Keep.of_wr W231).1) (Keep.of_wr W234).1)) (Nat.le_of_eq g237.symm)))).other W243 (Nat.ne_of_lt (Nat.lt_of_lt_of_le (Nat.lt_of_lt_of_le lt_t32 (Nat.le_trans (Nat.le_trans (Nat.le_trans (Nat.le_trans (Nat.le_trans Kq35.1 E222.1) (Keep.of_wr W225).1) (Keep.of_wr W228).1) (Keep.of_wr W231).1) (Keep.of_wr W234).1)) (Nat.le_of_eq g237.symm)))).other W246 (Nat.ne_of_lt (Nat.lt_of_lt_of_le (Nat.lt_of_lt_of_le lt_t32 (Nat.le_trans (Nat.le_trans (Nat.le_trans (Nat.le_trans (Nat.le_trans Kq35.1 E222.1) (Keep.of_wr W225).1) (Keep.of_wr W228).1) (Keep.of_wr W231).1) (Keep.of_wr W234).1)) (Nat.le_of_eq g237.symm)))).other W249 (Nat.ne_of_lt (Nat.lt_of_lt_of_le (Nat.lt_of_lt_of_le lt_t32 (Nat.le_trans (Nat.le_trans (Nat.le_trans (Nat.le_trans (Nat.le_trans Kq35.1 E222.1) (Keep.of_wr W225).1) (Keep.of_wr W228).1) (Keep.of_wr W231).1) (Keep.of_wr W234).1)) (Nat.le_of_eq g237.symm)))), So32.2.2.2.2.1, So32.2.2.2.2.2⟩ O2 P5 ((((((((((((((X00.keep Kq26 all0).keep Kq29 all0).keep Kq32 all0).keep Kq35 all0).ext E222).wr W225 (Nat.le_trans Z0 (Nat.le_trans K35.1 (Nat.le_of_eq g222.symm)))).wr W228 (Nat.le_trans Z0 (Nat.le_trans K35.1 (Nat.le_of_eq g222.symm)))).wr W231 (Nat.le_trans Z0 (Nat.le_trans K35.1 (Nat.le_of_eq g222.symm)))).wr W234 (Nat.le_trans Z0 (Nat.le_trans K35.1 (Nat.le_of_eq g222.symm)))).ext E237).wr W240 (Nat.le_trans Z0 (Nat.le_trans K234.1 (Nat.le_of_eq g237.symm)))).wr W243 (Nat.le_trans Z0 (Nat.le_trans K234.1 (Nat.le_of_eq g237.symm)))).wr W246 (Nat.le_trans Z0 (Nat.le_trans K234.1 (Nat.le_of_eq g237.symm)))).wr W249 (Nat.le_trans Z0 (Nat.le_trans K234.1 (Nat.le_of_eq g237.symm))))) hZ35 (hw _ (List.mem_of_getElem? (i := 61) rfl)) (hw _ (List.mem_of_getElem? (i := 2) rfl)) (by decide) (by decide)) q297a q297c (g := (mkF m 287 #[.val (.int p0), .val (.int p1), .val (.int p2), .val (.int p3), .val (.int p4), .val (.int p5), .val (.int k3), .val (.ref pk), .val (.int (4 : Int32)), .val (.int (2 : Int32)), .val (.ref x26), .val (.ref x29), .val (.ref x32), .val (.ref x35), .val (.ref b222), .val (.ref b237), .val (.int he), .val (.int (2 : Int32)), .val (.int ex), .unset] [(.int (2 : Int32)), (.ref b222), (.ref pk)])) rfl (by rw [hml]; rfl) (Steps.refl _) (argsL := [(.ref b222), (.int (2 : Int32))]) (rest := []) (lenOf pd_oaLjavaslangsStringeIcI rfl) rfl (by show 2 * 0 + _ ≤ _; exact Nat.le_of_eq rfl) (hb hby at_287) (fun _ _ => ⟨rfl, e249, (by decide : 26 + 0 ≤ _), (by decide : 56 + 0 ≤ _)⟩)
          dsimp only [Pt.U, Pt.locs, Pt.cells, Pt.slots] at X297 l297 y297 z297 st297 hQ297
          subst l297 y297 z297
          obtain ⟨rfl, Nq297, eq297⟩ := hQ297
          have c298 : Steps p.tables e below S0 (T297.setTop (mkF m 290 #[.val (.int p0), .val (.int p1), .val (.int p2), .val (.int p3), .val (.int p4), .val (.int p5), .val (.int k3), .val (.ref pk), .val (.int (4 : Int32)), .val (.int (2 : Int32)), .val (.ref x26), .val (.ref x29), .val (.ref x32), .val (.ref x35), .val (.ref b222), .val (.ref b237), .val (.int he), .val (.int (2 : Int32)), .val (.int ex), .unset] [(.int (own_span rr te (4 : Int32) (2 : Int32) cs32.length))])) := c296.trans (st297)
          have N297 := Fr.app N249 Nq297
          have c299 : Steps p.tables e below S0 (T297.setTop (mkF m 304 #[.val (.int p0), .val (.int p1), .val (.int p2), .val (.int p3), .val (.int p4), .val (.int p5), .val (.int k3), .val (.ref pk), .val (.int (4 : Int32)), .val (.int (2 : Int32)), .val (.ref x26), .val (.ref x29), .val (.ref x32), .val (.ref x35), .val (.ref b222), .val (.ref b237), .val (.int he), .val (.int (2 : Int32)), .val (.int ex), .val (.int (own_span rr te (4 : Int32) (2 : Int32) cs32.length))] [(.int (1 : Int32))])) := c298.trans (by
            show Steps p.tables e below (T297.setTop (mkF m 290 #[.val (.int p0), .val (.int p1), .val (.int p2), .val (.int p3), .val (.int p4), .val (.int p5), .val (.int k3), .val (.ref pk), .val (.int (4 : Int32)), .val (.int (2 : Int32)), .val (.ref x26), .val (.ref x29), .val (.ref x32), .val (.ref x35), .val (.ref b222), .val (.ref b237), .val (.int he), .val (.int (2 : Int32)), .val (.int ex), .unset] [(.int (own_span rr te (4 : Int32) (2 : Int32) cs32.length))])) _
            refine XS.istore X297.here hx rfl (hb hby at_290) rfl (l' := #[.val (.int p0), .val (.int p1), .val (.int p2), .val (.int p3), .val (.int p4), .val (.int p5), .val (.int k3), .val (.ref pk), .val (.int (4 : Int32)), .val (.int (2 : Int32)), .val (.ref x26), .val (.ref x29), .val (.ref x32), .val (.ref x35), .val (.ref b222), .val (.ref b237), .val (.int he), .val (.int (2 : Int32)), .val (.int ex), .val (.int (own_span rr te (4 : Int32) (2 : Int32) cs32.length))]) rfl ?_
            refine XS.iload X297.here hx rfl (hb hby at_292) rfl ?_
            refine XS.iload X297.here hx rfl (hb hby at_294) rfl ?_
            refine XS.icmpNo X297.here hx rfl (hb hby at_296) rfl (teq (own_ex42 hkk em32 hhe hex)).2 ?_
            show Steps p.tables e below (T297.setTop (mkF m 299 #[.val (.int p0), .val (.int p1), .val (.int p2), .val (.int p3), .val (.int p4), .val (.int p5), .val (.int k3), .val (.ref pk), .val (.int (4 : Int32)), .val (.int (2 : Int32)), .val (.ref x26), .val (.ref x29), .val (.ref x32), .val (.ref x35), .val (.ref b222), .val (.ref b237), .val (.int he), .val (.int (2 : Int32)), .val (.int ex), .val (.int (own_span rr te (4 : Int32) (2 : Int32) cs32.length))] [])) _
            refine XS.iconst X297.here hx rfl (hb hby at_299) ?_
            refine XS.goto X297.here hx rfl (pc0 := 300) (pc' := 304) rfl (hb hby at_300) (by decide) (by decide) ?_
            exact Steps.refl _)
          obtain ⟨fs, hr, hrun, hended, hW⟩ := X297.leaveW hS35 (by rw [eq297]; exact (Nat.le_trans (Nat.le_refl _) (Nat.le_trans (Nat.le_trans (Nat.le_trans (Nat.le_trans (Nat.le_trans (Nat.le_trans (Nat.le_trans (Nat.le_trans (Nat.le_trans E222.1 (Keep.of_wr W225).1) (Keep.of_wr W228).1) (Keep.of_wr W231).1) (Keep.of_wr W234).1) E237.1) (Keep.of_wr W240).1) (Keep.of_wr W243).1) (Keep.of_wr W246).1) (Keep.of_wr W249).1))) (v := some (.int (1 : Int32))) (fun h => by rw [Bd.returns] at h; cases h)
          refine ⟨_, _, c299.trans (retOut X297 hx Bd.returns rfl (Or.inl ⟨rfl, by simp, _, rfl⟩) (hb hby at_304) hr), hrun, hended, _, _, rfl, ?_, ?_, hW.1, hW.2.1, hW.2.2.1, hW.2.2.2.mono (by decide) (by decide)⟩
          · show Q0 Z  h0 n0 _ T297.heap _
            rw [eq297]
            exact ⟨rfl, N297⟩
          · show CHr Z EL s.vm s.heap T297.vm T297.heap
            rw [hh, eq297]; exact R249.trans (CHv.at X297 hZ35 hEL R249.1)
        · rw [ei] at c251
          have c300 : Steps p.tables e below S0 (T249.setTop (mkF m 209 #[.val (.int p0), .val (.int p1), .val (.int p2), .val (.int p3), .val (.int p4), .val (.int p5), .val (.int k3), .val (.ref pk), .val (.int (4 : Int32)), .val (.int (3 : Int32)), .val (.ref x26), .val (.ref x29), .val (.ref x32), .val (.ref x35), .val (.ref b222), .val (.ref b237), .unset, .unset, .unset, .unset] [(.int (3 : Int32)), (.ref b237)])) := c251.trans (by
            show Steps p.tables e below (T249.setTop (mkF m 205 #[.val (.int p0), .val (.int p1), .val (.int p2), .val (.int p3), .val (.int p4), .val (.int p5), .val (.int k3), .val (.ref pk), .val (.int (4 : Int32)), .val (.int (3 : Int32)), .val (.ref x26), .val (.ref x29), .val (.ref x32), .val (.ref x35), .val (.ref b222), .val (.ref b237), .unset, .unset, .unset, .unset] [])) _
            refine XS.aload X249.here hx rfl (hb hby at_205) rfl rfl ?_
            refine XS.iload X249.here hx rfl (hb hby at_207) rfl ?_
            exact Steps.refl _)
          obtain ⟨cl301, Ar301, -, S301, -, Ha301, -⟩ := id V249
          have c302 : Steps p.tables e below S0 (T249.setTop (mkF m 212 #[.val (.int p0), .val (.int p1), .val (.int p2), .val (.int p3), .val (.int p4), .val (.int p5), .val (.int k3), .val (.ref pk), .val (.int (4 : Int32)), .val (.int (3 : Int32)), .val (.ref x26), .val (.ref x29), .val (.ref x32), .val (.ref x35), .val (.ref b222), .val (.ref b237), .unset, .unset, .unset, .unset] [(.int (p5 &&& (3 : Int32)))])) := c300.trans (by
            show Steps p.tables e below (T249.setTop (mkF m 209 #[.val (.int p0), .val (.int p1), .val (.int p2), .val (.int p3), .val (.int p4), .val (.int p5), .val (.int k3), .val (.ref pk), .val (.int (4 : Int32)), .val (.int (3 : Int32)), .val (.ref x26), .val (.ref x29), .val (.ref x32), .val (.ref x35), .val (.ref b222), .val (.ref b237), .unset, .unset, .unset, .unset] [(.int (3 : Int32)), (.ref b237)])) _
            refine X249.iaload hx (j := (3 : Int32)) (v := (.int p5)) (by rw [e249]; exact Ar301.1) (State.isArrayOf_alike hZ35.alike Ar301.2.1) Ar301.2.2 (inb_of S301 ⟨by decide, by decide⟩) (Ha301.at (inb_of S301 ⟨by decide, by decide⟩) rfl) (g := (mkF m 209 #[.val (.int p0), .val (.int p1), .val (.int p2), .val (.int p3), .val (.int p4), .val (.int p5), .val (.int k3), .val (.ref pk), .val (.int (4 : Int32)), .val (.int (3 : Int32)), .val (.ref x26), .val (.ref x29), .val (.ref x32), .val (.ref x35), .val (.ref b222), .val (.ref b237), .unset, .unset, .unset, .unset] [(.int (3 : Int32)), (.ref b237)])) rfl rfl (hb hby at_209) _ ?_
            refine XS.iconst X249.here hx rfl (hb hby at_210) ?_
            refine XS.iand X249.here hx rfl (hb hby at_211) rfl ?_
            exact Steps.refl _)
          obtain ⟨he, hhe, c305⟩ : ∃ (he : Int32), he = (if (p5 &&& (3 : Int32)) = (0 : Int32) then (1 : Int32) else (0 : Int32)) ∧ Steps p.tables e below S0 (T249.setTop (mkF m 220 #[.val (.int p0), .val (.int p1), .val (.int p2), .val (.int p3), .val (.int p4), .val (.int p5), .val (.int k3), .val (.ref pk), .val (.int (4 : Int32)), .val (.int (3 : Int32)), .val (.ref x26), .val (.ref x29), .val (.ref x32), .val (.ref x35), .val (.ref b222), .val (.ref b237), .unset, .unset, .unset, .unset] [(.int he)])) := by
            by_cases hq303 : (p5 &&& (3 : Int32)) = (0 : Int32)
            · exact ⟨_, (by rw [if_pos hq303]), c302.trans (by
                show Steps p.tables e below (T249.setTop (mkF m 212 #[.val (.int p0), .val (.int p1), .val (.int p2), .val (.int p3), .val (.int p4), .val (.int p5), .val (.int k3), .val (.ref pk), .val (.int (4 : Int32)), .val (.int (3 : Int32)), .val (.ref x26), .val (.ref x29), .val (.ref x32), .val (.ref x35), .val (.ref b222), .val (.ref b237), .unset, .unset, .unset, .unset] [(.int (p5 &&& (3 : Int32)))])) _
                refine XS.ifNo X249.here hx rfl (hb hby at_212) rfl ((if0 _ _).trans (teq hq303).2) ?_
                refine XS.iconst X249.here hx rfl (hb hby at_215) ?_
                refine XS.goto X249.here hx rfl (pc0 := 216) (pc' := 220) rfl (hb hby at_216) (by decide) (by decide) ?_
                exact Steps.refl _)⟩
            · exact ⟨_, (by rw [if_neg hq303]), c302.trans (by
                show Steps p.tables e below (T249.setTop (mkF m 212 #[.val (.int p0), .val (.int p1), .val (.int p2), .val (.int p3), .val (.int p4), .val (.int p5), .val (.int k3), .val (.ref pk), .val (.int (4 : Int32)), .val (.int (3 : Int32)), .val (.ref x26), .val (.ref x29), .val (.ref x32), .val (.ref x35), .val (.ref b222), .val (.ref b237), .unset, .unset, .unset, .unset] [(.int (p5 &&& (3 : Int32)))])) _
                refine XS.ifYes X249.here hx rfl (pc0 := 212) (pc' := 219) rfl (hb hby at_212) rfl ((if0 _ _).trans (feq hq303).2) (by decide) (by decide) ?_
                refine XS.iconst X249.here hx rfl (hb hby at_219) ?_
                exact Steps.refl _)⟩
          have c306 : Steps p.tables e below S0 (T249.setTop (mkF m 231 #[.val (.int p0), .val (.int p1), .val (.int p2), .val (.int p3), .val (.int p4), .val (.int p5), .val (.int k3), .val (.ref pk), .val (.int (4 : Int32)), .val (.int (3 : Int32)), .val (.ref x26), .val (.ref x29), .val (.ref x32), .val (.ref x35), .val (.ref b222), .val (.ref b237), .val (.int he), .val (.int (1 : Int32)), .unset, .unset] [(.int k3)])) := c305.trans (by
            show Steps p.tables e below (T249.setTop (mkF m 220 #[.val (.int p0), .val (.int p1), .val (.int p2), .val (.int p3), .val (.int p4), .val (.int p5), .val (.int k3), .val (.ref pk), .val (.int (4 : Int32)), .val (.int (3 : Int32)), .val (.ref x26), .val (.ref x29), .val (.ref x32), .val (.ref x35), .val (.ref b222), .val (.ref b237), .unset, .unset, .unset, .unset] [(.int he)])) _
            refine XS.istore X249.here hx rfl (hb hby at_220) rfl (l' := #[.val (.int p0), .val (.int p1), .val (.int p2), .val (.int p3), .val (.int p4), .val (.int p5), .val (.int k3), .val (.ref pk), .val (.int (4 : Int32)), .val (.int (3 : Int32)), .val (.ref x26), .val (.ref x29), .val (.ref x32), .val (.ref x35), .val (.ref b222), .val (.ref b237), .val (.int he), .unset, .unset, .unset]) rfl ?_
            refine XS.iload X249.here hx rfl (hb hby at_222) rfl ?_
            refine XS.iload X249.here hx rfl (hb hby at_224) rfl ?_
            refine XS.isub X249.here hx rfl (hb hby at_226) rfl ?_
            show Steps p.tables e below (T249.setTop (mkF m 227 #[.val (.int p0), .val (.int p1), .val (.int p2), .val (.int p3), .val (.int p4), .val (.int p5), .val (.int k3), .val (.ref pk), .val (.int (4 : Int32)), .val (.int (3 : Int32)), .val (.ref x26), .val (.ref x29), .val (.ref x32), .val (.ref x35), .val (.ref b222), .val (.ref b237), .val (.int he), .unset, .unset, .unset] [(.int (1 : Int32))])) _
            refine XS.istore X249.here hx rfl (hb hby at_227) rfl (l' := #[.val (.int p0), .val (.int p1), .val (.int p2), .val (.int p3), .val (.int p4), .val (.int p5), .val (.int k3), .val (.ref pk), .val (.int (4 : Int32)), .val (.int (3 : Int32)), .val (.ref x26), .val (.ref x29), .val (.ref x32), .val (.ref x35), .val (.ref b222), .val (.ref b237), .val (.int he), .val (.int (1 : Int32)), .unset, .unset]) rfl ?_
            refine XS.iload X249.here hx rfl (hb hby at_229) rfl ?_
            exact Steps.refl _)
          obtain ⟨ex, hex, c312⟩ : ∃ (ex : Int32), ex = (if k3 = (0 : Int32) then (if he = (0 : Int32) then (1 : Int32) else (0 : Int32)) else (if k3 = (1 : Int32) then (if he = (0 : Int32) then (1 : Int32) else (0 : Int32)) else (1 : Int32))) ∧ Steps p.tables e below S0 (T249.setTop (mkF m 281 #[.val (.int p0), .val (.int p1), .val (.int p2), .val (.int p3), .val (.int p4), .val (.int p5), .val (.int k3), .val (.ref pk), .val (.int (4 : Int32)), .val (.int (3 : Int32)), .val (.ref x26), .val (.ref x29), .val (.ref x32), .val (.ref x35), .val (.ref b222), .val (.ref b237), .val (.int he), .val (.int (1 : Int32)), .val (.int ex), .unset] [])) := by
            by_cases hq307 : k3 = (0 : Int32)
            · by_cases hq308 : he = (0 : Int32)
              · exact ⟨_, (by rw [if_pos hq307, if_pos hq308]), c306.trans (by
                  show Steps p.tables e below (T249.setTop (mkF m 231 #[.val (.int p0), .val (.int p1), .val (.int p2), .val (.int p3), .val (.int p4), .val (.int p5), .val (.int k3), .val (.ref pk), .val (.int (4 : Int32)), .val (.int (3 : Int32)), .val (.ref x26), .val (.ref x29), .val (.ref x32), .val (.ref x35), .val (.ref b222), .val (.ref b237), .val (.int he), .val (.int (1 : Int32)), .unset, .unset] [(.int k3)])) _
                  refine XS.ifNo X249.here hx rfl (hb hby at_231) rfl ((if0 _ _).trans (teq hq307).2) ?_
                  refine XS.iload X249.here hx rfl (hb hby at_234) rfl ?_
                  refine XS.ifYes X249.here hx rfl (pc0 := 236) (pc' := 243) rfl (hb hby at_236) rfl ((if0 _ _).trans (teq hq308).1) (by decide) (by decide) ?_
                  refine XS.iconst X249.here hx rfl (hb hby at_243) ?_
                  show Steps p.tables e below (T249.setTop (mkF m 244 #[.val (.int p0), .val (.int p1), .val (.int p2), .val (.int p3), .val (.int p4), .val (.int p5), .val (.int k3), .val (.ref pk), .val (.int (4 : Int32)), .val (.int (3 : Int32)), .val (.ref x26), .val (.ref x29), .val (.ref x32), .val (.ref x35), .val (.ref b222), .val (.ref b237), .val (.int he), .val (.int (1 : Int32)), .unset, .unset] [(.int (1 : Int32))])) _
                  refine XS.istore X249.here hx rfl (hb hby at_244) rfl (l' := #[.val (.int p0), .val (.int p1), .val (.int p2), .val (.int p3), .val (.int p4), .val (.int p5), .val (.int k3), .val (.ref pk), .val (.int (4 : Int32)), .val (.int (3 : Int32)), .val (.ref x26), .val (.ref x29), .val (.ref x32), .val (.ref x35), .val (.ref b222), .val (.ref b237), .val (.int he), .val (.int (1 : Int32)), .val (.int (1 : Int32)), .unset]) rfl ?_
                  refine XS.goto X249.here hx rfl (pc0 := 246) (pc' := 281) rfl (hb hby at_246) (by decide) (by decide) ?_
                  exact Steps.refl _)⟩
              · exact ⟨_, (by rw [if_pos hq307, if_neg hq308]), c306.trans (by
                  show Steps p.tables e below (T249.setTop (mkF m 231 #[.val (.int p0), .val (.int p1), .val (.int p2), .val (.int p3), .val (.int p4), .val (.int p5), .val (.int k3), .val (.ref pk), .val (.int (4 : Int32)), .val (.int (3 : Int32)), .val (.ref x26), .val (.ref x29), .val (.ref x32), .val (.ref x35), .val (.ref b222), .val (.ref b237), .val (.int he), .val (.int (1 : Int32)), .unset, .unset] [(.int k3)])) _
                  refine XS.ifNo X249.here hx rfl (hb hby at_231) rfl ((if0 _ _).trans (teq hq307).2) ?_
                  refine XS.iload X249.here hx rfl (hb hby at_234) rfl ?_
                  refine XS.ifNo X249.here hx rfl (hb hby at_236) rfl ((if0 _ _).trans (feq hq308).1) ?_
                  refine XS.iconst X249.here hx rfl (hb hby at_239) ?_
                  show Steps p.tables e below (T249.setTop (mkF m 240 #[.val (.int p0), .val (.int p1), .val (.int p2), .val (.int p3), .val (.int p4), .val (.int p5), .val (.int k3), .val (.ref pk), .val (.int (4 : Int32)), .val (.int (3 : Int32)), .val (.ref x26), .val (.ref x29), .val (.ref x32), .val (.ref x35), .val (.ref b222), .val (.ref b237), .val (.int he), .val (.int (1 : Int32)), .unset, .unset] [(.int (0 : Int32))])) _
                  refine XS.goto X249.here hx rfl (pc0 := 240) (pc' := 244) rfl (hb hby at_240) (by decide) (by decide) ?_
                  refine XS.istore X249.here hx rfl (hb hby at_244) rfl (l' := #[.val (.int p0), .val (.int p1), .val (.int p2), .val (.int p3), .val (.int p4), .val (.int p5), .val (.int k3), .val (.ref pk), .val (.int (4 : Int32)), .val (.int (3 : Int32)), .val (.ref x26), .val (.ref x29), .val (.ref x32), .val (.ref x35), .val (.ref b222), .val (.ref b237), .val (.int he), .val (.int (1 : Int32)), .val (.int (0 : Int32)), .unset]) rfl ?_
                  refine XS.goto X249.here hx rfl (pc0 := 246) (pc' := 281) rfl (hb hby at_246) (by decide) (by decide) ?_
                  exact Steps.refl _)⟩
            · by_cases hq309 : k3 = (1 : Int32)
              · by_cases hq310 : he = (0 : Int32)
                · exact ⟨_, (by rw [if_neg hq307, if_pos hq309, if_pos hq310]), c306.trans (by
                    show Steps p.tables e below (T249.setTop (mkF m 231 #[.val (.int p0), .val (.int p1), .val (.int p2), .val (.int p3), .val (.int p4), .val (.int p5), .val (.int k3), .val (.ref pk), .val (.int (4 : Int32)), .val (.int (3 : Int32)), .val (.ref x26), .val (.ref x29), .val (.ref x32), .val (.ref x35), .val (.ref b222), .val (.ref b237), .val (.int he), .val (.int (1 : Int32)), .unset, .unset] [(.int k3)])) _
                    refine XS.ifYes X249.here hx rfl (pc0 := 231) (pc' := 249) rfl (hb hby at_231) rfl ((if0 _ _).trans (feq hq307).2) (by decide) (by decide) ?_
                    refine XS.iload X249.here hx rfl (hb hby at_249) rfl ?_
                    refine XS.iconst X249.here hx rfl (hb hby at_251) ?_
                    refine XS.icmpNo X249.here hx rfl (hb hby at_252) rfl (teq hq309).2 ?_
                    show Steps p.tables e below (T249.setTop (mkF m 255 #[.val (.int p0), .val (.int p1), .val (.int p2), .val (.int p3), .val (.int p4), .val (.int p5), .val (.int k3), .val (.ref pk), .val (.int (4 : Int32)), .val (.int (3 : Int32)), .val (.ref x26), .val (.ref x29), .val (.ref x32), .val (.ref x35), .val (.ref b222), .val (.ref b237), .val (.int he), .val (.int (1 : Int32)), .unset, .unset] [])) _
                    refine XS.iload X249.here hx rfl (hb hby at_255) rfl ?_
                    refine XS.iconst X249.here hx rfl (hb hby at_257) ?_
                    refine XS.icmpNo X249.here hx rfl (hb hby at_258) rfl (teq (by decide : ((1 : Int32) = (1 : Int32)))).2 ?_
                    refine XS.iload X249.here hx rfl (hb hby at_261) rfl ?_
                    show Steps p.tables e below (T249.setTop (mkF m 263 #[.val (.int p0), .val (.int p1), .val (.int p2), .val (.int p3), .val (.int p4), .val (.int p5), .val (.int k3), .val (.ref pk), .val (.int (4 : Int32)), .val (.int (3 : Int32)), .val (.ref x26), .val (.ref x29), .val (.ref x32), .val (.ref x35), .val (.ref b222), .val (.ref b237), .val (.int he), .val (.int (1 : Int32)), .unset, .unset] [(.int he)])) _
                    refine XS.ifYes X249.here hx rfl (pc0 := 263) (pc' := 270) rfl (hb hby at_263) rfl ((if0 _ _).trans (teq hq310).1) (by decide) (by decide) ?_
                    refine XS.iload X249.here hx rfl (hb hby at_270) rfl ?_
                    refine XS.istore X249.here hx rfl (hb hby at_272) rfl (l' := #[.val (.int p0), .val (.int p1), .val (.int p2), .val (.int p3), .val (.int p4), .val (.int p5), .val (.int k3), .val (.ref pk), .val (.int (4 : Int32)), .val (.int (3 : Int32)), .val (.ref x26), .val (.ref x29), .val (.ref x32), .val (.ref x35), .val (.ref b222), .val (.ref b237), .val (.int he), .val (.int (1 : Int32)), .val (.int (1 : Int32)), .unset]) rfl ?_
                    refine XS.goto X249.here hx rfl (pc0 := 274) (pc' := 281) rfl (hb hby at_274) (by decide) (by decide) ?_
                    exact Steps.refl _)⟩
                · exact ⟨_, (by rw [if_neg hq307, if_pos hq309, if_neg hq310]), c306.trans (by
                    show Steps p.tables e below (T249.setTop (mkF m 231 #[.val (.int p0), .val (.int p1), .val (.int p2), .val (.int p3), .val (.int p4), .val (.int p5), .val (.int k3), .val (.ref pk), .val (.int (4 : Int32)), .val (.int (3 : Int32)), .val (.ref x26), .val (.ref x29), .val (.ref x32), .val (.ref x35), .val (.ref b222), .val (.ref b237), .val (.int he), .val (.int (1 : Int32)), .unset, .unset] [(.int k3)])) _
                    refine XS.ifYes X249.here hx rfl (pc0 := 231) (pc' := 249) rfl (hb hby at_231) rfl ((if0 _ _).trans (feq hq307).2) (by decide) (by decide) ?_
                    refine XS.iload X249.here hx rfl (hb hby at_249) rfl ?_
                    refine XS.iconst X249.here hx rfl (hb hby at_251) ?_
                    refine XS.icmpNo X249.here hx rfl (hb hby at_252) rfl (teq hq309).2 ?_
                    show Steps p.tables e below (T249.setTop (mkF m 255 #[.val (.int p0), .val (.int p1), .val (.int p2), .val (.int p3), .val (.int p4), .val (.int p5), .val (.int k3), .val (.ref pk), .val (.int (4 : Int32)), .val (.int (3 : Int32)), .val (.ref x26), .val (.ref x29), .val (.ref x32), .val (.ref x35), .val (.ref b222), .val (.ref b237), .val (.int he), .val (.int (1 : Int32)), .unset, .unset] [])) _
                    refine XS.iload X249.here hx rfl (hb hby at_255) rfl ?_
                    refine XS.iconst X249.here hx rfl (hb hby at_257) ?_
                    refine XS.icmpNo X249.here hx rfl (hb hby at_258) rfl (teq (by decide : ((1 : Int32) = (1 : Int32)))).2 ?_
                    refine XS.iload X249.here hx rfl (hb hby at_261) rfl ?_
                    show Steps p.tables e below (T249.setTop (mkF m 263 #[.val (.int p0), .val (.int p1), .val (.int p2), .val (.int p3), .val (.int p4), .val (.int p5), .val (.int k3), .val (.ref pk), .val (.int (4 : Int32)), .val (.int (3 : Int32)), .val (.ref x26), .val (.ref x29), .val (.ref x32), .val (.ref x35), .val (.ref b222), .val (.ref b237), .val (.int he), .val (.int (1 : Int32)), .unset, .unset] [(.int he)])) _
                    refine XS.ifNo X249.here hx rfl (hb hby at_263) rfl ((if0 _ _).trans (feq hq310).1) ?_
                    refine XS.iconst X249.here hx rfl (hb hby at_266) ?_
                    refine XS.goto X249.here hx rfl (pc0 := 267) (pc' := 272) rfl (hb hby at_267) (by decide) (by decide) ?_
                    refine XS.istore X249.here hx rfl (hb hby at_272) rfl (l' := #[.val (.int p0), .val (.int p1), .val (.int p2), .val (.int p3), .val (.int p4), .val (.int p5), .val (.int k3), .val (.ref pk), .val (.int (4 : Int32)), .val (.int (3 : Int32)), .val (.ref x26), .val (.ref x29), .val (.ref x32), .val (.ref x35), .val (.ref b222), .val (.ref b237), .val (.int he), .val (.int (1 : Int32)), .val (.int (0 : Int32)), .unset]) rfl ?_
                    show Steps p.tables e below (T249.setTop (mkF m 274 #[.val (.int p0), .val (.int p1), .val (.int p2), .val (.int p3), .val (.int p4), .val (.int p5), .val (.int k3), .val (.ref pk), .val (.int (4 : Int32)), .val (.int (3 : Int32)), .val (.ref x26), .val (.ref x29), .val (.ref x32), .val (.ref x35), .val (.ref b222), .val (.ref b237), .val (.int he), .val (.int (1 : Int32)), .val (.int (0 : Int32)), .unset] [])) _
                    refine XS.goto X249.here hx rfl (pc0 := 274) (pc' := 281) rfl (hb hby at_274) (by decide) (by decide) ?_
                    exact Steps.refl _)⟩
              · exact ⟨_, (by rw [if_neg hq307, if_neg hq309]), c306.trans (by
                  show Steps p.tables e below (T249.setTop (mkF m 231 #[.val (.int p0), .val (.int p1), .val (.int p2), .val (.int p3), .val (.int p4), .val (.int p5), .val (.int k3), .val (.ref pk), .val (.int (4 : Int32)), .val (.int (3 : Int32)), .val (.ref x26), .val (.ref x29), .val (.ref x32), .val (.ref x35), .val (.ref b222), .val (.ref b237), .val (.int he), .val (.int (1 : Int32)), .unset, .unset] [(.int k3)])) _
                  refine XS.ifYes X249.here hx rfl (pc0 := 231) (pc' := 249) rfl (hb hby at_231) rfl ((if0 _ _).trans (feq hq307).2) (by decide) (by decide) ?_
                  refine XS.iload X249.here hx rfl (hb hby at_249) rfl ?_
                  refine XS.iconst X249.here hx rfl (hb hby at_251) ?_
                  refine XS.icmpYes X249.here hx rfl (pc0 := 252) (pc' := 277) rfl (hb hby at_252) rfl (feq hq309).2 (by decide) (by decide) ?_
                  show Steps p.tables e below (T249.setTop (mkF m 277 #[.val (.int p0), .val (.int p1), .val (.int p2), .val (.int p3), .val (.int p4), .val (.int p5), .val (.int k3), .val (.ref pk), .val (.int (4 : Int32)), .val (.int (3 : Int32)), .val (.ref x26), .val (.ref x29), .val (.ref x32), .val (.ref x35), .val (.ref b222), .val (.ref b237), .val (.int he), .val (.int (1 : Int32)), .unset, .unset] [])) _
                  refine XS.iload X249.here hx rfl (hb hby at_277) rfl ?_
                  refine XS.istore X249.here hx rfl (hb hby at_279) rfl (l' := #[.val (.int p0), .val (.int p1), .val (.int p2), .val (.int p3), .val (.int p4), .val (.int p5), .val (.int k3), .val (.ref pk), .val (.int (4 : Int32)), .val (.int (3 : Int32)), .val (.ref x26), .val (.ref x29), .val (.ref x32), .val (.ref x35), .val (.ref b222), .val (.ref b237), .val (.int he), .val (.int (1 : Int32)), .val (.int (1 : Int32)), .unset]) rfl ?_
                  exact Steps.refl _)⟩
          have c313 : Steps p.tables e below S0 (T249.setTop (mkF m 287 #[.val (.int p0), .val (.int p1), .val (.int p2), .val (.int p3), .val (.int p4), .val (.int p5), .val (.int k3), .val (.ref pk), .val (.int (4 : Int32)), .val (.int (3 : Int32)), .val (.ref x26), .val (.ref x29), .val (.ref x32), .val (.ref x35), .val (.ref b222), .val (.ref b237), .val (.int he), .val (.int (1 : Int32)), .val (.int ex), .unset] [(.int (3 : Int32)), (.ref b222), (.ref pk)])) := c312.trans (by
            show Steps p.tables e below (T249.setTop (mkF m 281 #[.val (.int p0), .val (.int p1), .val (.int p2), .val (.int p3), .val (.int p4), .val (.int p5), .val (.int k3), .val (.ref pk), .val (.int (4 : Int32)), .val (.int (3 : Int32)), .val (.ref x26), .val (.ref x29), .val (.ref x32), .val (.ref x35), .val (.ref b222), .val (.ref b237), .val (.int he), .val (.int (1 : Int32)), .val (.int ex), .unset] [])) _
            refine XS.aload X249.here hx rfl (hb hby at_281) rfl rfl ?_
            refine XS.aload X249.here hx rfl (hb hby at_283) rfl rfl ?_
            refine XS.iload X249.here hx rfl (hb hby at_285) rfl ?_
            exact Steps.refl _)
          obtain ⟨cq314, kq314, q314a, q314b, q314c⟩ := isOf hZ35 e249 (((((((((((((((xpk.ext X00.2).keep Kq26).keep Kq29).keep Kq32).keep Kq35).ext E222).wr W225).wr W228).wr W231).wr W234).ext E237).wr W240).wr W243).wr W246).wr W249)
          obtain ⟨_, _, ⟨T314, L314, kk314, nn314⟩, -, X314, ⟨Lc314, hQ314, l314, y314, z314⟩, st314⟩ := X249.virtualBack hx (y := (⟨"com/example/libroute/libroute/pattern/ParameterKind", "span", "([Ljava/lang/String;I)I"⟩ : MethodName)) (z := (⟨"com/example/libroute/libroute/pattern/ParameterKind", "span", "([Ljava/lang/String;I)I"⟩ : MethodName)) hown35 (mvT hZ35 (hw _ (List.mem_of_getElem? (i := 57) rfl))) (mvT hZ35 (hw _ (List.mem_of_getElem? (i := 58) rfl))) (notFace_of_selects (args := #[]) (mvT hZ35 (hw _ (List.mem_of_getElem? (i := 60) rfl)))) (mvT hZ35 (hw _ (List.mem_of_getElem? (i := 60) rfl))) (mvT hZ35 (hw _ (List.mem_of_getElem? (i := 59) rfl))) (by decide) (backOf (W := 0) (rmSp l Z a0 hw [] pk b222 rr te (4 : Int32) (3 : Int32) _ [(.ref x26), (.ref x29), (.ref x32), (.ref x35)] x35 t35 kb35 cs35 G1 h249 n0 z249 (((((((((((((((Fp.ext X00.2).keep Kq26 nin0).keep Kq29 nin0).keep Kq32 nin0).keep Kq35 nin0).ext E222).other W225 (Or.inl (Nat.ne_of_lt (Nat.lt_of_lt_of_le (Nat.lt_of_lt_of_le (xpk.ext X00.2).lt (Nat.le_trans (Nat.le_trans (Nat.le_trans Kq26.1 Kq29.1) Kq32.1) Kq35.1)) (Nat.le_of_eq g222.symm))))).other W228 (Or.inl (Nat.ne_of_lt (Nat.lt_of_lt_of_le (Nat.lt_of_lt_of_le (xpk.ext X00.2).lt (Nat.le_trans (Nat.le_trans (Nat.le_trans Kq26.1 Kq29.1) Kq32.1) Kq35.1)) (Nat.le_of_eq g222.symm))))).other W231 (Or.inl (Nat.ne_of_lt (Nat.lt_of_lt_of_le (Nat.lt_of_lt_of_le (xpk.ext X00.2).lt (Nat.le_trans (Nat.le_trans (Nat.le_trans Kq26.1 Kq29.1) Kq32.1) Kq35.1)) (Nat.le_of_eq g222.symm))))).other W234 (Or.inl (Nat.ne_of_lt (Nat.lt_of_lt_of_le (Nat.lt_of_lt_of_le (xpk.ext X00.2).lt (Nat.le_trans (Nat.le_trans (Nat.le_trans Kq26.1 Kq29.1) Kq32.1) Kq35.1)) (Nat.le_of_eq g222.symm))))).ext E237).other W240 (Or.inl (Nat.ne_of_lt (Nat.lt_of_lt_of_le (Nat.lt_of_lt_of_le (xpk.ext X00.2).lt (Nat.le_trans (Nat.le_trans (Nat.le_trans (Nat.le_trans (Nat.le_trans (Nat.le_trans (Nat.le_trans (Nat.le_trans Kq26.1 Kq29.1) Kq32.1) Kq35.1) E222.1) (Keep.of_wr W225).1) (Keep.of_wr W228).1) (Keep.of_wr W231).1) (Keep.of_wr W234).1)) (Nat.le_of_eq g237.symm))))).other W243 (Or.inl (Nat.ne_of_lt (Nat.lt_of_lt_of_le (Nat.lt_of_lt_of_le (xpk.ext X00.2).lt (Nat.le_trans (Nat.le_trans (Nat.le_trans (Nat.le_trans (Nat.le_trans (Nat.le_trans (Nat.le_trans (Nat.le_trans Kq26.1 Kq29.1) Kq32.1) Kq35.1) E222.1) (Keep.of_wr W225).1) (Keep.of_wr W228).1) (Keep.of_wr W231).1) (Keep.of_wr W234).1)) (Nat.le_of_eq g237.symm))))).other W246 (Or.inl (Nat.ne_of_lt (Nat.lt_of_lt_of_le (Nat.lt_of_lt_of_le (xpk.ext X00.2).lt (Nat.le_trans (Nat.le_trans (Nat.le_trans (Nat.le_trans (Nat.le_trans (Nat.le_trans (Nat.le_trans (Nat.le_trans Kq26.1 Kq29.1) Kq32.1) Kq35.1) E222.1) (Keep.of_wr W225).1) (Keep.of_wr W228).1) (Keep.of_wr W231).1) (Keep.of_wr W234).1)) (Nat.le_of_eq g237.symm))))).other W249 (Or.inl (Nat.ne_of_lt (Nat.lt_of_lt_of_le (Nat.lt_of_lt_of_le (xpk.ext X00.2).lt (Nat.le_trans (Nat.le_trans (Nat.le_trans (Nat.le_trans (Nat.le_trans (Nat.le_trans (Nat.le_trans (Nat.le_trans Kq26.1 Kq29.1) Kq32.1) Kq35.1) E222.1) (Keep.of_wr W225).1) (Keep.of_wr W228).1) (Keep.of_wr W231).1) (Keep.of_wr W234).1)) (Nat.le_of_eq g237.symm))))) (((((((((((((((Gp.ext X00.2).keep Kq26 nin0).keep Kq29 nin0).keep Kq32 nin0).keep Kq35 nin0).ext E222).other W225 (Or.inl (Nat.ne_of_lt (Nat.lt_of_lt_of_le (Nat.lt_of_lt_of_le (xpk.ext X00.2).lt (Nat.le_trans (Nat.le_trans (Nat.le_trans Kq26.1 Kq29.1) Kq32.1) Kq35.1)) (Nat.le_of_eq g222.symm))))).other W228 (Or.inl (Nat.ne_of_lt (Nat.lt_of_lt_of_le (Nat.lt_of_lt_of_le (xpk.ext X00.2).lt (Nat.le_trans (Nat.le_trans (Nat.le_trans Kq26.1 Kq29.1) Kq32.1) Kq35.1)) (Nat.le_of_eq g222.symm))))).other W231 (Or.inl (Nat.ne_of_lt (Nat.lt_of_lt_of_le (Nat.lt_of_lt_of_le (xpk.ext X00.2).lt (Nat.le_trans (Nat.le_trans (Nat.le_trans Kq26.1 Kq29.1) Kq32.1) Kq35.1)) (Nat.le_of_eq g222.symm))))).other W234 (Or.inl (Nat.ne_of_lt (Nat.lt_of_lt_of_le (Nat.lt_of_lt_of_le (xpk.ext X00.2).lt (Nat.le_trans (Nat.le_trans (Nat.le_trans Kq26.1 Kq29.1) Kq32.1) Kq35.1)) (Nat.le_of_eq g222.symm))))).ext E237).other W240 (Or.inl (Nat.ne_of_lt (Nat.lt_of_lt_of_le (Nat.lt_of_lt_of_le (xpk.ext X00.2).lt (Nat.le_trans (Nat.le_trans (Nat.le_trans (Nat.le_trans (Nat.le_trans (Nat.le_trans (Nat.le_trans (Nat.le_trans Kq26.1 Kq29.1) Kq32.1) Kq35.1) E222.1) (Keep.of_wr W225).1) (Keep.of_wr W228).1) (Keep.of_wr W231).1) (Keep.of_wr W234).1)) (Nat.le_of_eq g237.symm))))).other W243 (Or.inl (Nat.ne_of_lt (Nat.lt_of_lt_of_le (Nat.lt_of_lt_of_le (xpk.ext X00.2).lt (Nat.le_trans (Nat.le_trans (Nat.le_trans (Nat.le_trans (Nat.le_trans (Nat.le_trans (Nat.le_trans (Nat.le_trans Kq26.1 Kq29.1) Kq32.1) Kq35.1) E222.1) (Keep.of_wr W225).1) (Keep.of_wr W228).1) (Keep.of_wr W231).1) (Keep.of_wr W234).1)) (Nat.le_of_eq g237.symm))))).other W246 (Or.inl (Nat.ne_of_lt (Nat.lt_of_lt_of_le (Nat.lt_of_lt_of_le (xpk.ext X00.2).lt (Nat.le_trans (Nat.le_trans (Nat.le_trans (Nat.le_trans (Nat.le_trans (Nat.le_trans (Nat.le_trans (Nat.le_trans Kq26.1 Kq29.1) Kq32.1) Kq35.1) E222.1) (Keep.of_wr W225).1) (Keep.of_wr W228).1) (Keep.of_wr W231).1) (Keep.of_wr W234).1)) (Nat.le_of_eq g237.symm))))).other W249 (Or.inl (Nat.ne_of_lt (Nat.lt_of_lt_of_le (Nat.lt_of_lt_of_le (xpk.ext X00.2).lt (Nat.le_trans (Nat.le_trans (Nat.le_trans (Nat.le_trans (Nat.le_trans (Nat.le_trans (Nat.le_trans (Nat.le_trans Kq26.1 Kq29.1) Kq32.1) Kq35.1) E222.1) (Keep.of_wr W225).1) (Keep.of_wr W228).1) (Keep.of_wr W231).1) (Keep.of_wr W234).1)) (Nat.le_of_eq g237.symm))))) (((((V234.ext E237).other W240 (Nat.ne_of_lt (Nat.lt_of_lt_of_le (Nat.lt_of_lt_of_le lt_b222 (Nat.le_trans (Nat.le_trans (Nat.le_trans (Keep.of_wr W225).1 (Keep.of_wr W228).1) (Keep.of_wr W231).1) (Keep.of_wr W234).1)) (Nat.le_of_eq g237.symm)))).other W243 (Nat.ne_of_lt (Nat.lt_of_lt_of_le (Nat.lt_of_lt_of_le lt_b222 (Nat.le_trans (Nat.le_trans (Nat.le_trans (Keep.of_wr W225).1 (Keep.of_wr W228).1) (Keep.of_wr W231).1) (Keep.of_wr W234).1)) (Nat.le_of_eq g237.symm)))).other W246 (Nat.ne_of_lt (Nat.lt_of_lt_of_le (Nat.lt_of_lt_of_le lt_b222 (Nat.le_trans (Nat.le_trans (Nat.le_trans (Keep.of_wr W225).1 (Keep.of_wr W228).1) (Keep.of_wr W231).1) (Keep.of_wr W234).1)) (Nat.le_of_eq g237.symm)))).other W249 (Nat.ne_of_lt (Nat.lt_of_lt_of_le (Nat.lt_of_lt_of_le lt_b222 (Nat.le_trans (Nat.le_trans (Nat.le_trans (Keep.of_wr W225).1 (Keep.of_wr W228).1) (Keep.of_wr W231).1) (Keep.of_wr W234).1)) (Nat.le_of_eq g237.symm)))) ⟨by decide, by decide⟩ rfl ⟨((((((((((So35.1.ext E222).wr W225).wr W228).wr W231).wr W234).ext E237).wr W240).wr W243).wr W246).wr W249), ((((((((((So35.2.1.ext E222).other W225 (Or.inl (Nat.ne_of_lt (Nat.lt_of_lt_of_le lt_x35 (Nat.le_of_eq g222.symm))))).other W228 (Or.inl (Nat.ne_of_lt (Nat.lt_of_lt_of_le lt_x35 (Nat.le_of_eq g222.symm))))).other W231 (Or.inl (Nat.ne_of_lt (Nat.lt_of_lt_of_le lt_x35 (Nat.le_of_eq g222.symm))))).other W234 (Or.inl (Nat.ne_of_lt (Nat.lt_of_lt_of_le lt_x35 (Nat.le_of_eq g222.symm))))).ext E237).other W240 (Or.inl (Nat.ne_of_lt (Nat.lt_of_lt_of_le (Nat.lt_of_lt_of_le lt_x35 (Nat.le_trans (Nat.le_trans (Nat.le_trans (Nat.le_trans E222.1 (Keep.of_wr W225).1) (Keep.of_wr W228).1) (Keep.of_wr W231).1) (Keep.of_wr W234).1)) (Nat.le_of_eq g237.symm))))).other W243 (Or.inl (Nat.ne_of_lt (Nat.lt_of_lt_of_le (Nat.lt_of_lt_of_le lt_x35 (Nat.le_trans (Nat.le_trans (Nat.le_trans (Nat.le_trans E222.1 (Keep.of_wr W225).1) (Keep.of_wr W228).1) (Keep.of_wr W231).1) (Keep.of_wr W234).1)) (Nat.le_of_eq g237.symm))))).other W246 (Or.inl (Nat.ne_of_lt (Nat.lt_of_lt_of_le (Nat.lt_of_lt_of_le lt_x35 (Nat.le_trans (Nat.le_trans (Nat.le_trans (Nat.le_trans E222.1 (Keep.of_wr W225).1) (Keep.of_wr W228).1) (Keep.of_wr W231).1) (Keep.of_wr W234).1)) (Nat.le_of_eq g237.symm))))).other W249 (Or.inl (Nat.ne_of_lt (Nat.lt_of_lt_of_le (Nat.lt_of_lt_of_le lt_x35 (Nat.le_trans (Nat.le_trans (Nat.le_trans (Nat.le_trans E222.1 (Keep.of_wr W225).1) (Keep.of_wr W228).1) (Keep.of_wr W231).1) (Keep.of_wr W234).1)) (Nat.le_of_eq g237.symm))))), ((((((((((So35.2.2.1.ext E222).other W225 (Or.inl (Nat.ne_of_lt (Nat.lt_of_lt_of_le lt_x35 (Nat.le_of_eq g222.symm))))).other W228 (Or.inl (Nat.ne_of_lt (Nat.lt_of_lt_of_le lt_x35 (Nat.le_of_eq g222.symm))))).other W231 (Or.inl (Nat.ne_of_lt (Nat.lt_of_lt_of_le lt_x35 (Nat.le_of_eq g222.symm))))).other W234 (Or.inl (Nat.ne_of_lt (Nat.lt_of_lt_of_le lt_x35 (Nat.le_of_eq g222.symm))))).ext E237).other W240 (Or.inl (Nat.ne_of_lt (Nat.lt_of_lt_of_le (Nat.lt_of_lt_of_le lt_x35 (Nat.le_trans (Nat.le_trans (Nat.le_trans (Nat.le_trans E222.1 (Keep.of_wr W225).1) (Keep.of_wr W228).1) (Keep.of_wr W231).1) (Keep.of_wr W234).1)) (Nat.le_of_eq g237.symm))))).other W243 (Or.inl (Nat.ne_of_lt (Nat.lt_of_lt_of_le (Nat.lt_of_lt_of_le lt_x35 (Nat.le_trans (Nat.le_trans (Nat.le_trans (Nat.le_trans E222.1 (Keep.of_wr W225).1) (Keep.of_wr W228).1) (Keep.of_wr W231).1) (Keep.of_wr W234).1)) (Nat.le_of_eq g237.symm))))).other W246 (Or.inl (Nat.ne_of_lt (Nat.lt_of_lt_of_le (Nat.lt_of_lt_of_le lt_x35 (Nat.le_trans (Nat.le_trans (Nat.le_trans (Nat.le_trans E222.1 (Keep.of_wr W225).1) (Keep.of_wr W228).1) (Keep.of_wr W231).1) (Keep.of_wr W234).1)) (Nat.le_of_eq g237.symm))))).other W249 (Or.inl (Nat.ne_of_lt (Nat.lt_of_lt_of_le (Nat.lt_of_lt_of_le lt_x35 (Nat.le_trans (Nat.le_trans (Nat.le_trans (Nat.le_trans E222.1 (Keep.of_wr W225).1) (Keep.of_wr W228).1) (Keep.of_wr W231).1) (Keep.of_wr W234).1)) (Nat.le_of_eq g237.symm))))), ((((((((((So35.2.2.2.1.ext E222).other W225 (Nat.ne_of_lt (Nat.lt_of_lt_of_le lt_t35 (Nat.le_of_eq g222.symm)))).other W228 (Nat.ne_of_lt (Nat.lt_of_lt_of_le lt_t35 (Nat.le_of_eq g222.symm)))).other W231 (Nat.ne_of_lt (Nat.lt_of_lt_of_le lt_t35 (Nat.le_of_eq g222.symm)))).other W234 (Nat.ne_of_lt (Nat.lt_of_lt_of_le lt_t35 (Nat.le_of_eq g222.symm)))).ext E237).other W240 (Nat.ne_of_lt (Nat.lt_of_lt_of_le (Nat.lt_of_lt_of_le lt_t35 (Nat.le_trans (Nat.le_trans (Nat.le_trans (Nat.le_trans E222.1 (Keep.of_wr W225).1) (Keep.of_wr W228).1) (Keep.of_wr W231).1) (Keep.of_wr W234).1)) (Nat.le_of_eq g237.symm)))).other W243 (Nat.ne_of_lt (Nat.lt_of_lt_of_le (Nat.lt_of_lt_of_le lt_t35 (Nat.le_trans (Nat.le_trans (Nat.le_trans (Nat.le_trans E222.1 (Keep.of_wr W225).1) (Keep.of_wr W228).1) (Keep.of_wr W231).1) (Keep.of_wr W234).1)) (Nat.le_of_eq g237.symm)))).other W246 (Nat.ne_of_lt (Nat.lt_of_lt_of_le (Nat.lt_of_lt_of_le lt_t35 (Nat.le_trans (Nat.le_trans (Nat.le_trans (Nat.le_trans E222.1 (Keep.of_wr W225).1) (Keep.of_wr W228).1) (Keep.of_wr W231).1) (Keep.of_wr W234).1)) (Nat.le_of_eq g237.symm)))).other W249 (Nat.ne_of_lt (Nat.lt_of_lt_of_le (Nat.lt_of_lt_of_le lt_t35 (Nat.le_trans (Nat.le_trans (Nat.le_trans (Nat.le_trans E222.1 (Keep.of_wr W225).1) (Keep.of_wr W228).1) (Keep.of_wr W231).1) (Keep.of_wr W234).1)) (Nat.le_of_eq g237.symm)))), So35.2.2.2.2.1, So35.2.2.2.2.2⟩ O2 P5 ((((((((((((((X00.keep Kq26 all0).keep Kq29 all0).keep Kq32 all0).keep Kq35 all0).ext E222).wr W225 (Nat.le_trans Z0 (Nat.le_trans K35.1 (Nat.le_of_eq g222.symm)))).wr W228 (Nat.le_trans Z0 (Nat.le_trans K35.1 (Nat.le_of_eq g222.symm)))).wr W231 (Nat.le_trans Z0 (Nat.le_trans K35.1 (Nat.le_of_eq g222.symm)))).wr W234 (Nat.le_trans Z0 (Nat.le_trans K35.1 (Nat.le_of_eq g222.symm)))).ext E237).wr W240 (Nat.le_trans Z0 (Nat.le_trans K234.1 (Nat.le_of_eq g237.symm)))).wr W243 (Nat.le_trans Z0 (Nat.le_trans K234.1 (Nat.le_of_eq g237.symm)))).wr W246 (Nat.le_trans Z0 (Nat.le_trans K234.1 (Nat.le_of_eq g237.symm)))).wr W249 (Nat.le_trans Z0 (Nat.le_trans K234.1 (Nat.le_of_eq g237.symm))))) hZ35 (hw _ (List.mem_of_getElem? (i := 61) rfl)) (hw _ (List.mem_of_getElem? (i := 2) rfl)) (by decide) (by decide)) q314a q314c (g := (mkF m 287 #[.val (.int p0), .val (.int p1), .val (.int p2), .val (.int p3), .val (.int p4), .val (.int p5), .val (.int k3), .val (.ref pk), .val (.int (4 : Int32)), .val (.int (3 : Int32)), .val (.ref x26), .val (.ref x29), .val (.ref x32), .val (.ref x35), .val (.ref b222), .val (.ref b237), .val (.int he), .val (.int (1 : Int32)), .val (.int ex), .unset] [(.int (3 : Int32)), (.ref b222), (.ref pk)])) rfl (by rw [hml]; rfl) (Steps.refl _) (argsL := [(.ref b222), (.int (3 : Int32))]) (rest := []) (lenOf pd_oaLjavaslangsStringeIcI rfl) rfl (by show 2 * 0 + _ ≤ _; exact Nat.le_of_eq rfl) (hb hby at_287) (fun _ _ => ⟨rfl, e249, (by decide : 26 + 0 ≤ _), (by decide : 56 + 0 ≤ _)⟩)
          dsimp only [Pt.U, Pt.locs, Pt.cells, Pt.slots] at X314 l314 y314 z314 st314 hQ314
          subst l314 y314 z314
          obtain ⟨rfl, Nq314, eq314⟩ := hQ314
          have c315 : Steps p.tables e below S0 (T314.setTop (mkF m 290 #[.val (.int p0), .val (.int p1), .val (.int p2), .val (.int p3), .val (.int p4), .val (.int p5), .val (.int k3), .val (.ref pk), .val (.int (4 : Int32)), .val (.int (3 : Int32)), .val (.ref x26), .val (.ref x29), .val (.ref x32), .val (.ref x35), .val (.ref b222), .val (.ref b237), .val (.int he), .val (.int (1 : Int32)), .val (.int ex), .unset] [(.int (own_span rr te (4 : Int32) (3 : Int32) cs35.length))])) := c313.trans (st314)
          have N314 := Fr.app N249 Nq314
          have c316 : Steps p.tables e below S0 (T314.setTop (mkF m 304 #[.val (.int p0), .val (.int p1), .val (.int p2), .val (.int p3), .val (.int p4), .val (.int p5), .val (.int k3), .val (.ref pk), .val (.int (4 : Int32)), .val (.int (3 : Int32)), .val (.ref x26), .val (.ref x29), .val (.ref x32), .val (.ref x35), .val (.ref b222), .val (.ref b237), .val (.int he), .val (.int (1 : Int32)), .val (.int ex), .val (.int (own_span rr te (4 : Int32) (3 : Int32) cs35.length))] [(.int (1 : Int32))])) := c315.trans (by
            show Steps p.tables e below (T314.setTop (mkF m 290 #[.val (.int p0), .val (.int p1), .val (.int p2), .val (.int p3), .val (.int p4), .val (.int p5), .val (.int k3), .val (.ref pk), .val (.int (4 : Int32)), .val (.int (3 : Int32)), .val (.ref x26), .val (.ref x29), .val (.ref x32), .val (.ref x35), .val (.ref b222), .val (.ref b237), .val (.int he), .val (.int (1 : Int32)), .val (.int ex), .unset] [(.int (own_span rr te (4 : Int32) (3 : Int32) cs35.length))])) _
            refine XS.istore X314.here hx rfl (hb hby at_290) rfl (l' := #[.val (.int p0), .val (.int p1), .val (.int p2), .val (.int p3), .val (.int p4), .val (.int p5), .val (.int k3), .val (.ref pk), .val (.int (4 : Int32)), .val (.int (3 : Int32)), .val (.ref x26), .val (.ref x29), .val (.ref x32), .val (.ref x35), .val (.ref b222), .val (.ref b237), .val (.int he), .val (.int (1 : Int32)), .val (.int ex), .val (.int (own_span rr te (4 : Int32) (3 : Int32) cs35.length))]) rfl ?_
            refine XS.iload X314.here hx rfl (hb hby at_292) rfl ?_
            refine XS.iload X314.here hx rfl (hb hby at_294) rfl ?_
            refine XS.icmpNo X314.here hx rfl (hb hby at_296) rfl (teq (own_ex43 hkk em35 hhe hex)).2 ?_
            show Steps p.tables e below (T314.setTop (mkF m 299 #[.val (.int p0), .val (.int p1), .val (.int p2), .val (.int p3), .val (.int p4), .val (.int p5), .val (.int k3), .val (.ref pk), .val (.int (4 : Int32)), .val (.int (3 : Int32)), .val (.ref x26), .val (.ref x29), .val (.ref x32), .val (.ref x35), .val (.ref b222), .val (.ref b237), .val (.int he), .val (.int (1 : Int32)), .val (.int ex), .val (.int (own_span rr te (4 : Int32) (3 : Int32) cs35.length))] [])) _
            refine XS.iconst X314.here hx rfl (hb hby at_299) ?_
            refine XS.goto X314.here hx rfl (pc0 := 300) (pc' := 304) rfl (hb hby at_300) (by decide) (by decide) ?_
            exact Steps.refl _)
          obtain ⟨fs, hr, hrun, hended, hW⟩ := X314.leaveW hS35 (by rw [eq314]; exact (Nat.le_trans (Nat.le_refl _) (Nat.le_trans (Nat.le_trans (Nat.le_trans (Nat.le_trans (Nat.le_trans (Nat.le_trans (Nat.le_trans (Nat.le_trans (Nat.le_trans E222.1 (Keep.of_wr W225).1) (Keep.of_wr W228).1) (Keep.of_wr W231).1) (Keep.of_wr W234).1) E237.1) (Keep.of_wr W240).1) (Keep.of_wr W243).1) (Keep.of_wr W246).1) (Keep.of_wr W249).1))) (v := some (.int (1 : Int32))) (fun h => by rw [Bd.returns] at h; cases h)
          refine ⟨_, _, c316.trans (retOut X314 hx Bd.returns rfl (Or.inl ⟨rfl, by simp, _, rfl⟩) (hb hby at_304) hr), hrun, hended, _, _, rfl, ?_, ?_, hW.1, hW.2.1, hW.2.2.1, hW.2.2.2.mono (by decide) (by decide)⟩
          · show Q0 Z  h0 n0 _ T314.heap _
            rw [eq314]
            exact ⟨rfl, N314⟩
          · show CHr Z EL s.vm s.heap T314.vm T314.heap
            rw [hh, eq314]; exact R249.trans (CHv.at X314 hZ35 hEL R249.1)

set_option maxRecDepth 65536 in
set_option maxHeartbeats 40000000 in
theorem comes_1 {Post : Tables → Env → Array Value → State → Outcome → State → Prop} (hpost : ∀ tb e args s v u, (limb_1_1.after args s (.returned v) u = true ∧ limb_1_2.after args s (.returned v) u = true ∧ True) → ReturnedEndW s (.returned v) u (Jvm.fieldLocs frame_1_writes args s ++ Jvm.arrayLocs frame_1_arrays args s ++ Jvm.staticLocs frame_1_statics s) 40 1216 → Post tb e args s (.returned v) u) :
    ArmFor flags0 classFile x code maxLocals ret World_1 tables_1 room_1 Calls_1 rest_1 Pre_1 Post := by
  intro l hfl _ _ p e ha hc hk s m args below hf hA hF happ hP
  obtain ⟨hcalls, hrest, hpre⟩ := hP
  obtain ⟨-, -, -, hnamed, -, -, -, hat⟩ := (Spec.applies_iff hf).mp happ
  obtain ⟨hg, hn⟩ := and_e (Cond.before_iff.mp (show (Jvm.Cond.and given_1 narrow_1).before args s = true from hpre))
  obtain ⟨hcnt, hr1⟩ := and_e hg
  obtain ⟨ga0, hr2⟩ := and_e hr1
  obtain ⟨ga1, hr3⟩ := and_e hr2
  obtain ⟨ga2, hr4⟩ := and_e hr3
  obtain ⟨ga3, hr5⟩ := and_e hr4
  obtain ⟨ga4, hr6⟩ := and_e hr5
  obtain ⟨w0, w1, w2, w3, w4, w5, rfl⟩ : ∃ w0 w1 w2 w3 w4 w5 : Value, args = #[w0, w1, w2, w3, w4, w5] := by
    have hs : args.size = 6 := by simpa [Cond.value, given_1] using hcnt
    obtain ⟨L⟩ := args
    match L, hs with
    | [w0, w1, w2, w3, w4, w5], _ => exact ⟨w0, w1, w2, w3, w4, w5, rfl⟩
  have hw := fun d (hd : d ∈ tables_1) => atoms_spec (ws := Jvm.Cond.code x code maxLocals ret :: tables_1) hat d (List.mem_cons_of_mem _ hd)
  have hfit : Fit s := fun {y c} hc i hi => by
    obtain ⟨ha, rfl⟩ := Array.getElem?_eq_some_iff.mp hc
    have q := List.all_eq_true.mp ((Array.all_eq_true_iff_forall_mem.mp hF) _ (Array.getElem_mem ha)) i (List.mem_range.mpr hi)
    simpa [Array.getElem?_eq_getElem hi] using q
  obtain ⟨hsets, hown0⟩ := atoms_of _ (rest_1_c_eq ▸ (show rest_1_c.before _ s = true from hrest))
  obtain ⟨i0, ei0⟩ := is_v ga0
  obtain rfl : w0 = (.int i0) := Option.some.inj ei0
  obtain ⟨i1, ei1⟩ := is_v ga1
  obtain rfl : w1 = (.int i1) := Option.some.inj ei1
  obtain ⟨i2, ei2⟩ := is_v ga2
  obtain rfl : w2 = (.int i2) := Option.some.inj ei2
  obtain ⟨i3, ei3⟩ := is_v ga3
  obtain rfl : w3 = (.int i3) := Option.some.inj ei3
  obtain ⟨i4, ei4⟩ := is_v ga4
  obtain rfl : w4 = (.int i4) := Option.some.inj ei4
  obtain ⟨i5, ei5⟩ := is_v hr6
  obtain rfl : w5 = (.int i5) := Option.some.inj ei5
  have n3 := not_v (Cond.before_iff.mp (hsets _ (List.mem_of_getElem? (i := 2) rfl)))
  obtain ⟨G1, eG1⟩ := is_v (Cond.before_iff.mp (hsets _ (List.mem_of_getElem? (i := 1) rfl)))
  have O2 : Sta s s.heap "java/lang/String" "COMPACT_STRINGS" "Z" (.int G1) := Sta.start eG1 (Or.inl (hsets _ (List.mem_of_getElem? (i := 0) rfl)))
  have P5 : ¬ (G1 = (0 : Int32)) := gotF (Cond.eq_ints eG1 (Term.int_eval (0))) n3
  obtain ⟨nw0, nr0⟩ := and_e hn
  obtain ⟨nw1, nr1⟩ := and_e nr0
  obtain ⟨nw2, nr2⟩ := and_e nr1
  obtain ⟨nw3, nr3⟩ := and_e nr2
  obtain ⟨nw4, nr4⟩ := and_e nr3
  obtain ⟨nw5, nr5⟩ := and_e nr4
  obtain ⟨nw6, nr6⟩ := and_e nr5
  obtain ⟨nw7, nr7⟩ := and_e nr6
  have nw8 := nr7
  obtain ⟨u0, evu0⟩ := exa_v nw0
  have su0 : Sta s s.heap "com/example/libroute/libroute/pattern/ParameterKind" "SEGMENT" "Lcom/example/libroute/libroute/pattern/ParameterKind;" (.ref u0) := Sta.start evu0 (Or.inr ⟨hw _ (List.mem_of_getElem? (i := 2) rfl), hw _ (List.mem_of_getElem? (i := 3) rfl)⟩)
  have xu0 : Exa s s.heap u0 "com/example/libroute/libroute/pattern/ParameterKind" := Exa.start evu0 nw0
  have fu0 : Fld s s.heap u0 "com/example/libroute/libroute/pattern/ParameterKind" "rest" "Z" (.int (0 : Int32)) := own_fld evu0 nw1
  have gu0 : Fld s s.heap u0 "com/example/libroute/libroute/pattern/ParameterKind" "takesEmpty" "Z" (.int (0 : Int32)) := own_fld evu0 nw5
  obtain ⟨u1, evu1⟩ := exa_v nw2
  have su1 : Sta s s.heap "com/example/libroute/libroute/pattern/ParameterKind" "NONEMPTY_REST" "Lcom/example/libroute/libroute/pattern/ParameterKind;" (.ref u1) := Sta.start evu1 (Or.inr ⟨hw _ (List.mem_of_getElem? (i := 2) rfl), hw _ (List.mem_of_getElem? (i := 70) rfl)⟩)
  have xu1 : Exa s s.heap u1 "com/example/libroute/libroute/pattern/ParameterKind" := Exa.start evu1 nw2
  have fu1 : Fld s s.heap u1 "com/example/libroute/libroute/pattern/ParameterKind" "rest" "Z" (.int (1 : Int32)) := own_fld evu1 nw3
  have gu1 : Fld s s.heap u1 "com/example/libroute/libroute/pattern/ParameterKind" "takesEmpty" "Z" (.int (0 : Int32)) := own_fld evu1 nw4
  obtain ⟨u2, evu2⟩ := exa_v nw6
  have su2 : Sta s s.heap "com/example/libroute/libroute/pattern/ParameterKind" "REST" "Lcom/example/libroute/libroute/pattern/ParameterKind;" (.ref u2) := Sta.start evu2 (Or.inr ⟨hw _ (List.mem_of_getElem? (i := 2) rfl), hw _ (List.mem_of_getElem? (i := 74) rfl)⟩)
  have xu2 : Exa s s.heap u2 "com/example/libroute/libroute/pattern/ParameterKind" := Exa.start evu2 nw6
  have fu2 : Fld s s.heap u2 "com/example/libroute/libroute/pattern/ParameterKind" "rest" "Z" (.int (1 : Int32)) := own_fld evu2 nw7
  have gu2 : Fld s s.heap u2 "com/example/libroute/libroute/pattern/ParameterKind" "takesEmpty" "Z" (.int (1 : Int32)) := own_fld evu2 nw8
  obtain ⟨n, o, h1, h2, h3, _, L, rfl, ⟨rfl, N⟩, -, hq⟩ := rm0 l s _ hw tables_1 i0 i1 i2 i3 i4 i5 u0 u1 u2 G1 s.heap s.heap.size (Nat.le_refl _) su0 xu0 fu0 gu0 su1 xu1 fu1 gu1 su2 xu2 fu2 gu2 O2 P5 (Old.start s) p e ha hc hk s m _ below hf ((Spec.applies_iff_loose hf).mp happ).1 ⟨rfl, State.Warmed39.refl s, rfl, own_CH hw hcalls.1 (hsets _ (List.mem_of_getElem? (i := 2) rfl))⟩ trivial
  refine ⟨n, _, h1, h2, h3, hpost _ _ _ _ _ _ ⟨Cond.after_iff.mpr rfl, Cond.after_iff.mpr (eq_i res_at (Term.int_eval (1)) rfl), trivial⟩ ⟨hq.1, hq.2.1, hq.2.2.1, (hq.2.2.2.sift fun y hy => Or.inr (N y hy)).mono (by decide) (by decide)⟩⟩
theorem main_1_1 : Claimed_1_1 := comes_1 fun _ _ _ _ _ _ h hF => ⟨h.1, hF⟩
theorem main_1_2 : Claimed_1_2 := comes_1 fun _ _ _ _ _ _ h hF => ⟨h.2.1, hF⟩
end Jvm.Pilot.@@N@@
namespace Jvm.Pilot.@@N@@
open Jvm Jvm.ClassFile Sem Op Lib Jvm.Free Jvm.Stand Jvm.Pilot.@@N@@.Jvm.D
/-! MADE BY PROGRAM (witnessworld.py) out of the Statement's table words and the real class files: 22 classes; the members and pool entries that the words name. The judged class is class 1, her method 2. -/
namespace start1
open Jvm.ClassFile
def u (s : String) : CpInfo := .utf8 (stringToUtf16 s)
/-- a pool by its gaps: so many unusable entries, then the entry; so many at the end -/
def gap : Nat → List CpInfo → List CpInfo
  | 0, r => r
  | n + 1, r => .unusable :: gap n r
def poolList (es : List (Nat × CpInfo)) (last : Nat) : List CpInfo := es.foldr (fun e r => gap e.1 (e.2 :: r)) (gap last [])
def pool (es : List (Nat × CpInfo)) (last : Nat) : Array CpInfo := ⟨poolList es last⟩
def fileOf (pool : Array CpInfo) (this : Nat) (attrs : Array Attribute := #[]) (ms : Array MethodInfo := #[]) (fl : Nat := 33) (sup : Nat := 0) (ifs : Array Nat := #[]) (fds : Array FieldInfo := #[]) : ClassFile where
  minorVersion := 0
  majorVersion := 65
  constantPool := pool
  accessFlags := fl
  thisClass := this
  superClass := sup
  interfaces := ifs
  fields := fds
  methods := ms
  attributes := attrs
def plain (name : String) (sup : Option ClassId) : Class where
  name := name
  kind := .ordinary
  loader := none
  accessFlags := 33
  super := sup
  interfaces := #[]
  cf := none
  fields := #[]
  methods := #[]
  instanceTypes := #[]
  staticTypes := #[]
  resolved := #[]
  callSites := []
  init := .initialized
  statics := none
  mirror := none

def pool0 : Array CpInfo := pool [(5, u "<init>"), (0, u "()V"), (1, .class_ 10), (1, u "java/lang/Object")] 113

def k0c0 : Code := { maxStack := 0, maxLocals := 1, code := object_method_1_code, exceptionTable := #[], attributes := #[] }
def k0m0 : Method := { name := "<init>", desc := "()V", sig := { parameters := [], returnType := none }, accessFlags := 1, code := some k0c0 }
/-- java/lang/Object -/
def k0 : Class := { plain "java/lang/Object" none with
  accessFlags := 33
  interfaces := #[]
  cf := some (fileOf pool0 8 #[] #[{ accessFlags := 1, nameIndex := 5, descriptorIndex := 6, attributes := #[] }] 33 0 #[] #[])
  fields := #[]
  methods := #[k0m0]
  instanceTypes := #[]
  staticTypes := #[]
  resolved := Array.replicate 124 none
  statics := none }

def pool1 : Array CpInfo := pool [(2, .class_ 4), (1, u "java/lang/Object"), (0, u "<init>"), (0, u "()V"), (0, .class_ 8), (0, u "java/lang/String"), (0, .methodref 7 10), (0, .nameAndType 5 11), (0, u "([C)V"), (0, .methodref 7 13), (0, .nameAndType 14 15), (0, u "valueOf"), (0, u "(C)Ljava/lang/String;"), (0, .integer 2147483647), (0, .fieldref 18 19), (0, .class_ 20), (0, .nameAndType 21 22), (0, u "com/example/libroute/libroute/pattern/ParameterKind"), (0, u "SEGMENT"), (0, u "Lcom/example/libroute/libroute/pattern/ParameterKind;"), (0, .fieldref 18 24), (0, .nameAndType 25 22), (0, u "NONEMPTY_REST"), (0, .fieldref 18 27), (0, .nameAndType 28 22), (0, u "REST"), (0, .methodref 30 31), (0, .class_ 32), (0, .nameAndType 33 34), (0, u "com/example/libroute/libroute/pattern/ParameterKindSpanPinLaw"), (0, u "seg"), (0, u "(I)Ljava/lang/String;"), (0, .methodref 18 36), (0, .nameAndType 37 38), (0, u "span"), (0, u "([Ljava/lang/String;I)I"), (3, u "law"), (0, u "(IIIIII)Z")] 6

def k1m0 : Method := { name := "<init>", desc := "()V", sig := { parameters := [], returnType := none }, accessFlags := 2, code := none }
def k1c1 : Code := { maxStack := 6, maxLocals := 5, code := method_2_code, exceptionTable := #[], attributes := #[] }
def k1m1 : Method := { name := "seg", desc := "(I)Ljava/lang/String;", sig := { parameters := [.int], returnType := some (.object "java/lang/String") }, accessFlags := 10, code := some k1c1 }
def k1c2 : Code := { maxStack := 4, maxLocals := 20, code := code, exceptionTable := #[], attributes := #[] }
def k1m2 : Method := { name := "law", desc := "(IIIIII)Z", sig := { parameters := [.int, .int, .int, .int, .int, .int], returnType := some .boolean }, accessFlags := 9, code := some k1c2 }
/-- com/example/libroute/libroute/pattern/ParameterKindSpanPinLaw -/
def k1 : Class := { plain "com/example/libroute/libroute/pattern/ParameterKindSpanPinLaw" (some 0) with
  accessFlags := 49
  interfaces := #[]
  cf := some (fileOf pool1 30 #[] #[{ accessFlags := 2, nameIndex := 5, descriptorIndex := 6, attributes := #[] }, { accessFlags := 10, nameIndex := 33, descriptorIndex := 34, attributes := #[] }, { accessFlags := 9, nameIndex := 42, descriptorIndex := 43, attributes := #[] }] 49 2 #[] #[])
  fields := #[]
  methods := #[k1m0, k1m1, k1m2]
  instanceTypes := #[]
  staticTypes := #[]
  resolved := Array.replicate 50 none
  statics := none }

def pool2 : Array CpInfo := pool [(1, .class_ 2), (0, u "java/lang/constant/Constable"), (0, .class_ 4), (0, u "java/lang/Object")] 6

/-- java/lang/constant/Constable -/
def k2 : Class := { plain "java/lang/constant/Constable" (some 0) with
  accessFlags := 1537
  interfaces := #[]
  cf := some (fileOf pool2 1 #[] #[] 1537 3 #[] #[])
  fields := #[]
  methods := #[]
  instanceTypes := #[]
  staticTypes := #[]
  resolved := Array.replicate 11 none
  statics := none }

def pool3 : Array CpInfo := pool [(1, .class_ 2), (0, u "java/lang/Comparable"), (0, .class_ 4), (0, u "java/lang/Object")] 7

/-- java/lang/Comparable -/
def k3 : Class := { plain "java/lang/Comparable" (some 0) with
  accessFlags := 1537
  interfaces := #[]
  cf := some (fileOf pool3 1 #[] #[] 1537 3 #[] #[])
  fields := #[]
  methods := #[]
  instanceTypes := #[]
  staticTypes := #[]
  resolved := Array.replicate 12 none
  statics := none }

def pool4 : Array CpInfo := pool [(1, .class_ 2), (0, u "java/io/Serializable"), (0, .class_ 4), (0, u "java/lang/Object")] 2

/-- java/io/Serializable -/
def k4 : Class := { plain "java/io/Serializable" (some 0) with
  accessFlags := 1537
  interfaces := #[]
  cf := some (fileOf pool4 1 #[] #[] 1537 3 #[] #[])
  fields := #[]
  methods := #[]
  instanceTypes := #[]
  staticTypes := #[]
  resolved := Array.replicate 7 none
  statics := none }

def pool5 : Array CpInfo := pool [(2, .class_ 4), (1, u "java/lang/Enum"), (0, u "name"), (0, u "Ljava/lang/String;"), (2, u "ordinal"), (0, u "I"), (1, .class_ 14), (1, u "java/lang/Object"), (4, u "hash"), (86, .class_ 108), (1, u "java/lang/Enum$EnumDesc"), (2, .class_ 112), (0, u "java/lang/constant/Constable"), (0, .class_ 114), (0, u "java/lang/Comparable"), (0, .class_ 116), (0, u "java/io/Serializable")] 87

/-- java/lang/Enum -/
def k5 : Class := { plain "java/lang/Enum" (some 0) with
  accessFlags := 1057
  interfaces := #[2, 3, 4]
  cf := some (fileOf pool5 2 #[.nestMembers #[106]] #[] 1057 12 #[111, 113, 115] #[{ accessFlags := 18, nameIndex := 5, descriptorIndex := 6, attributes := #[] }, { accessFlags := 18, nameIndex := 9, descriptorIndex := 10, attributes := #[] }, { accessFlags := 2, nameIndex := 19, descriptorIndex := 10, attributes := #[] }])
  fields := #[{ name := "name", type := (.object "java/lang/String"), accessFlags := 18, slot := 0, constantValue := 0 }, { name := "ordinal", type := .int, accessFlags := 18, slot := 1, constantValue := 0 }, { name := "hash", type := .int, accessFlags := 2, slot := 2, constantValue := 0 }]
  methods := #[]
  instanceTypes := #[(.object "java/lang/String"), .int, .int]
  staticTypes := #[]
  resolved := Array.replicate 204 none
  statics := none }

def pool6 : Array CpInfo := pool [(1, .class_ 2), (0, u "com/example/libroute/libroute/pattern/ParameterKind"), (2, u "SEGMENT"), (0, u "Lcom/example/libroute/libroute/pattern/ParameterKind;"), (2, u "NONEMPTY_REST"), (2, u "REST"), (2, u "$VALUES"), (0, u "[Lcom/example/libroute/libroute/pattern/ParameterKind;"), (6, .class_ 25), (1, u "java/lang/Enum"), (8, u "suffix"), (0, u "Ljava/lang/String;"), (0, .fieldref 1 37), (0, .nameAndType 38 39), (0, u "rest"), (0, u "Z"), (0, .fieldref 1 41), (0, .nameAndType 42 39), (0, u "takesEmpty"), (0, .methodref 44 45), (0, .class_ 46), (0, .nameAndType 47 48), (0, u "java/lang/String"), (0, u "isEmpty"), (0, u "()Z"), (65, u "span"), (0, u "([Ljava/lang/String;I)I")] 11

def k6c0 : Code := { maxStack := 2, maxLocals := 5, code := prog_11_method_7_code, exceptionTable := #[], attributes := #[] }
def k6m0 : Method := { name := "span", desc := "([Ljava/lang/String;I)I", sig := { parameters := [(.array (.object "java/lang/String")), .int], returnType := some .int }, accessFlags := 1, code := some k6c0 }
/-- com/example/libroute/libroute/pattern/ParameterKind -/
def k6 : Class := { plain "com/example/libroute/libroute/pattern/ParameterKind" (some 5) with
  accessFlags := 16433
  interfaces := #[]
  cf := some (fileOf pool6 1 #[] #[{ accessFlags := 1, nameIndex := 114, descriptorIndex := 115, attributes := #[] }] 16433 23 #[] #[{ accessFlags := 16409, nameIndex := 5, descriptorIndex := 6, attributes := #[] }, { accessFlags := 16409, nameIndex := 9, descriptorIndex := 6, attributes := #[] }, { accessFlags := 16409, nameIndex := 12, descriptorIndex := 6, attributes := #[] }, { accessFlags := 18, nameIndex := 34, descriptorIndex := 35, attributes := #[] }, { accessFlags := 18, nameIndex := 38, descriptorIndex := 39, attributes := #[] }, { accessFlags := 18, nameIndex := 42, descriptorIndex := 39, attributes := #[] }, { accessFlags := 4122, nameIndex := 15, descriptorIndex := 16, attributes := #[] }])
  fields := #[{ name := "SEGMENT", type := (.object "com/example/libroute/libroute/pattern/ParameterKind"), accessFlags := 16409, slot := 0, constantValue := 0 }, { name := "NONEMPTY_REST", type := (.object "com/example/libroute/libroute/pattern/ParameterKind"), accessFlags := 16409, slot := 1, constantValue := 0 }, { name := "REST", type := (.object "com/example/libroute/libroute/pattern/ParameterKind"), accessFlags := 16409, slot := 2, constantValue := 0 }, { name := "suffix", type := (.object "java/lang/String"), accessFlags := 18, slot := 3, constantValue := 0 }, { name := "rest", type := .boolean, accessFlags := 18, slot := 4, constantValue := 0 }, { name := "takesEmpty", type := .boolean, accessFlags := 18, slot := 5, constantValue := 0 }, { name := "$VALUES", type := (.array (.object "com/example/libroute/libroute/pattern/ParameterKind")), accessFlags := 4122, slot := 3, constantValue := 0 }]
  methods := #[k6m0]
  instanceTypes := #[(.object "java/lang/String"), .int, .int, (.object "java/lang/String"), .boolean, .boolean]
  staticTypes := #[(.object "com/example/libroute/libroute/pattern/ParameterKind"), (.object "com/example/libroute/libroute/pattern/ParameterKind"), (.object "com/example/libroute/libroute/pattern/ParameterKind"), (.array (.object "com/example/libroute/libroute/pattern/ParameterKind"))]
  resolved := Array.replicate 127 none
  statics := some 0 }

def pool7 : Array CpInfo := pool [(2, .class_ 4), (1, u "java/lang/CharSequence"), (42, .class_ 48), (0, u "java/lang/CharSequence$1CodePointIterator"), (10, .class_ 60), (0, u "java/lang/CharSequence$1CharIterator"), (5, .class_ 67), (0, u "java/lang/Object")] 63

/-- java/lang/CharSequence -/
def k7 : Class := { plain "java/lang/CharSequence" (some 0) with
  accessFlags := 1537
  interfaces := #[]
  cf := some (fileOf pool7 2 #[.nestMembers #[47, 59]] #[] 1537 66 #[] #[])
  fields := #[]
  methods := #[]
  instanceTypes := #[]
  staticTypes := #[]
  resolved := Array.replicate 131 none
  statics := none }

def pool8 : Array CpInfo := pool [(1, .class_ 2), (0, u "java/lang/constant/ConstantDesc"), (0, .class_ 4), (0, u "java/lang/Object")] 32

/-- java/lang/constant/ConstantDesc -/
def k8 : Class := { plain "java/lang/constant/ConstantDesc" (some 0) with
  accessFlags := 1537
  interfaces := #[]
  cf := some (fileOf pool8 1 #[] #[] 1537 3 #[] #[])
  fields := #[]
  methods := #[]
  instanceTypes := #[]
  staticTypes := #[]
  resolved := Array.replicate 37 none
  statics := none }

def pool9 : Array CpInfo := pool [(1, .methodref 2 3), (0, .class_ 4), (0, .nameAndType 5 6), (0, u "java/lang/Object"), (0, u "<init>"), (0, u "()V"), (0, .string 8), (0, u ""), (0, .fieldref 10 11), (0, .class_ 12), (0, .nameAndType 13 14), (0, u "java/lang/String"), (0, u "value"), (0, u "[B"), (0, .fieldref 10 16), (0, .nameAndType 17 18), (0, u "coder"), (0, u "B"), (2, u "hash"), (0, u "I"), (2, u "hashIsZero"), (0, u "Z"), (0, .methodref 10 28), (0, .nameAndType 5 29), (0, u "([CIILjava/lang/Void;)V"), (8, .fieldref 10 39), (0, .nameAndType 40 26), (0, u "COMPACT_STRINGS"), (1, .class_ 44), (1, u "java/lang/StringUTF16"), (0, u "compress"), (1, .methodref 42 48), (0, .nameAndType 49 50), (0, u "coderFromArrayLen"), (0, u "([BI)B"), (2, u "toBytes"), (53, .class_ 109), (1, u "java/lang/StringLatin1"), (32, u "()Z"), (34, .methodref 42 178), (0, .nameAndType 45 179), (0, u "([CII)[B"), (29, .methodref 10 210), (0, .nameAndType 5 211), (0, u "([BB)V"), (157, u "(C)Z"), (205, .class_ 576), (0, u "java/lang/CharSequence"), (22, u "CASE_INSENSITIVE_ORDER"), (0, u "Ljava/util/Comparator;"), (91, u "isEmpty"), (89, u "valueOf"), (0, u "(C)Ljava/lang/String;"), (226, u "([C)V"), (4, .methodref 107 1016), (0, .nameAndType 1017 369), (0, u "canEncode"), (0, .methodref 107 1019), (0, .nameAndType 53 1020), (0, u "(C)[B"), (80, u "serialPersistentFields"), (0, u "[Ljava/io/ObjectStreamField;"), (0, .class_ 1104), (0, u "java/lang/String$CaseInsensitiveComparator"), (1, .class_ 1107), (0, u "java/io/Serializable"), (0, .class_ 1109), (0, u "java/lang/Comparable"), (0, .class_ 1111), (0, u "java/lang/constant/Constable"), (0, .class_ 1113), (0, u "java/lang/constant/ConstantDesc"), (2, u "serialVersionUID"), (0, u "J"), (3, u "REPL"), (0, u "C"), (2, u "LATIN1"), (1, u "UTF16")] 323

def k9m0 : Method := { name := "<init>", desc := "()V", sig := { parameters := [], returnType := none }, accessFlags := 1, code := none }
def k9c1 : Code := { maxStack := 5, maxLocals := 2, code := jdk_42_method_3_code, exceptionTable := #[], attributes := #[] }
def k9m1 : Method := { name := "<init>", desc := "([C)V", sig := { parameters := [(.array .char)], returnType := none }, accessFlags := 1, code := some k9c1 }
def k9c2 : Code := { maxStack := 1, maxLocals := 1, code := jdk_42_method_55_code, exceptionTable := #[], attributes := #[] }
def k9m2 : Method := { name := "isEmpty", desc := "()Z", sig := { parameters := [], returnType := some .boolean }, accessFlags := 1, code := some k9c2 }
def k9c3 : Code := { maxStack := 4, maxLocals := 1, code := jdk_42_method_139_code, exceptionTable := #[], attributes := #[] }
def k9m3 : Method := { name := "valueOf", desc := "(C)Ljava/lang/String;", sig := { parameters := [.char], returnType := some (.object "java/lang/String") }, accessFlags := 9, code := some k9c3 }
def k9c4 : Code := { maxStack := 4, maxLocals := 6, code := jdk_42_method_149_code, exceptionTable := #[], attributes := #[] }
def k9m4 : Method := { name := "<init>", desc := "([CIILjava/lang/Void;)V", sig := { parameters := [(.array .char), .int, .int, (.object "java/lang/Void")], returnType := none }, accessFlags := 2, code := some k9c4 }
def k9c5 : Code := { maxStack := 2, maxLocals := 3, code := jdk_42_method_151_code, exceptionTable := #[], attributes := #[] }
def k9m5 : Method := { name := "<init>", desc := "([BB)V", sig := { parameters := [(.array .byte), .byte], returnType := none }, accessFlags := 0, code := some k9c5 }
/-- java/lang/String -/
def k9 : Class := { plain "java/lang/String" (some 0) with
  accessFlags := 49
  interfaces := #[4, 3, 7, 2, 8]
  cf := some (fileOf pool9 10 #[.nestMembers #[1103]] #[{ accessFlags := 1, nameIndex := 5, descriptorIndex := 6, attributes := #[] }, { accessFlags := 1, nameIndex := 5, descriptorIndex := 1010, attributes := #[] }, { accessFlags := 1, nameIndex := 692, descriptorIndex := 142, attributes := #[] }, { accessFlags := 9, nameIndex := 782, descriptorIndex := 783, attributes := #[] }, { accessFlags := 2, nameIndex := 5, descriptorIndex := 29, attributes := #[] }, { accessFlags := 0, nameIndex := 5, descriptorIndex := 211, attributes := #[] }] 49 2 #[1106, 1108, 575, 1110, 1112] #[{ accessFlags := 18, nameIndex := 13, descriptorIndex := 14, attributes := #[] }, { accessFlags := 18, nameIndex := 17, descriptorIndex := 18, attributes := #[] }, { accessFlags := 2, nameIndex := 21, descriptorIndex := 22, attributes := #[] }, { accessFlags := 2, nameIndex := 25, descriptorIndex := 26, attributes := #[] }, { accessFlags := 26, nameIndex := 1116, descriptorIndex := 1117, attributes := #[] }, { accessFlags := 24, nameIndex := 40, descriptorIndex := 26, attributes := #[] }, { accessFlags := 26, nameIndex := 1101, descriptorIndex := 1102, attributes := #[] }, { accessFlags := 26, nameIndex := 1121, descriptorIndex := 1122, attributes := #[] }, { accessFlags := 25, nameIndex := 599, descriptorIndex := 600, attributes := #[] }, { accessFlags := 24, nameIndex := 1125, descriptorIndex := 18, attributes := #[] }, { accessFlags := 24, nameIndex := 1127, descriptorIndex := 18, attributes := #[] }])
  fields := #[{ name := "value", type := (.array .byte), accessFlags := 18, slot := 0, constantValue := 0 }, { name := "coder", type := .byte, accessFlags := 18, slot := 1, constantValue := 0 }, { name := "hash", type := .int, accessFlags := 2, slot := 2, constantValue := 0 }, { name := "hashIsZero", type := .boolean, accessFlags := 2, slot := 3, constantValue := 0 }, { name := "serialVersionUID", type := .long, accessFlags := 26, slot := 0, constantValue := 0 }, { name := "COMPACT_STRINGS", type := .boolean, accessFlags := 24, slot := 1, constantValue := 0 }, { name := "serialPersistentFields", type := (.array (.object "java/io/ObjectStreamField")), accessFlags := 26, slot := 2, constantValue := 0 }, { name := "REPL", type := .char, accessFlags := 26, slot := 3, constantValue := 0 }, { name := "CASE_INSENSITIVE_ORDER", type := (.object "java/util/Comparator"), accessFlags := 25, slot := 4, constantValue := 0 }, { name := "LATIN1", type := .byte, accessFlags := 24, slot := 5, constantValue := 0 }, { name := "UTF16", type := .byte, accessFlags := 24, slot := 6, constantValue := 0 }]
  methods := #[k9m0, k9m1, k9m2, k9m3, k9m4, k9m5]
  instanceTypes := #[(.array .byte), .byte, .int, .boolean]
  staticTypes := #[.long, .boolean, (.array (.object "java/io/ObjectStreamField")), .char, (.object "java/util/Comparator"), .byte, .byte]
  resolved := Array.replicate 1451 none
  statics := some 1 }

def pool10 : Array CpInfo := pool [(6, .class_ 8), (1, u "java/lang/Object"), (0, u "<init>"), (0, u "()V"), (1, .class_ 14), (1, u "java/lang/StringUTF16"), (31, u "$assertionsDisabled"), (0, u "Z"), (13, u "HI_BYTE_SHIFT"), (0, u "I"), (2, u "LO_BYTE_SHIFT"), (49, .methodref 12 116), (0, .nameAndType 117 118), (0, u "compress"), (0, u "([CI[BII)I"), (3, u "([CII)[B"), (138, u "coderFromArrayLen"), (0, u "([BI)B"), (106, .class_ 371), (1, u "java/lang/StringUTF16$LinesSpliterator"), (58, u "MAX_LENGTH"), (196, .class_ 628), (0, u "java/lang/StringUTF16$CodePointsSpliterator"), (0, .class_ 630), (0, u "java/lang/StringUTF16$CharsSpliterator")] 4

def k10m0 : Method := { name := "<init>", desc := "()V", sig := { parameters := [], returnType := none }, accessFlags := 0, code := none }
def k10c1 : Code := { maxStack := 2, maxLocals := 2, code := jdk_52_method_15_code, exceptionTable := #[], attributes := #[] }
def k10m1 : Method := { name := "coderFromArrayLen", desc := "([BI)B", sig := { parameters := [(.array .byte), .int], returnType := some .byte }, accessFlags := 8, code := some k10c1 }
def k10c2 : Code := { maxStack := 5, maxLocals := 6, code := jdk_52_method_16_code, exceptionTable := #[], attributes := #[] }
def k10m2 : Method := { name := "compress", desc := "([CII)[B", sig := { parameters := [(.array .char), .int, .int], returnType := some (.array .byte) }, accessFlags := 9, code := some k10c2 }
def k10c3 : Code := { maxStack := 3, maxLocals := 7, code := jdk_52_method_21_code, exceptionTable := #[], attributes := #[] }
def k10m3 : Method := { name := "compress", desc := "([CI[BII)I", sig := { parameters := [(.array .char), .int, (.array .byte), .int, .int], returnType := some .int }, accessFlags := 9, code := some k10c3 }
/-- java/lang/StringUTF16 -/
def k10 : Class := { plain "java/lang/StringUTF16" (some 0) with
  accessFlags := 48
  interfaces := #[]
  cf := some (fileOf pool10 12 #[.nestMembers #[627, 629, 369]] #[{ accessFlags := 0, nameIndex := 9, descriptorIndex := 10, attributes := #[] }, { accessFlags := 8, nameIndex := 261, descriptorIndex := 262, attributes := #[] }, { accessFlags := 9, nameIndex := 117, descriptorIndex := 122, attributes := #[] }, { accessFlags := 9, nameIndex := 117, descriptorIndex := 118, attributes := #[] }] 48 6 #[] #[{ accessFlags := 26, nameIndex := 61, descriptorIndex := 62, attributes := #[] }, { accessFlags := 26, nameIndex := 65, descriptorIndex := 62, attributes := #[] }, { accessFlags := 24, nameIndex := 430, descriptorIndex := 62, attributes := #[] }, { accessFlags := 4120, nameIndex := 46, descriptorIndex := 47, attributes := #[] }])
  fields := #[{ name := "HI_BYTE_SHIFT", type := .int, accessFlags := 26, slot := 0, constantValue := 0 }, { name := "LO_BYTE_SHIFT", type := .int, accessFlags := 26, slot := 1, constantValue := 0 }, { name := "MAX_LENGTH", type := .int, accessFlags := 24, slot := 2, constantValue := 0 }, { name := "$assertionsDisabled", type := .boolean, accessFlags := 4120, slot := 3, constantValue := 0 }]
  methods := #[k10m0, k10m1, k10m2, k10m3]
  instanceTypes := #[]
  staticTypes := #[.int, .int, .int, .boolean]
  resolved := Array.replicate 635 none
  statics := none }

def pool11 : Array CpInfo := pool [(4, .class_ 6), (1, u "java/lang/Object"), (0, u "<init>"), (0, u "()V"), (5, .class_ 16), (1, u "java/lang/StringLatin1"), (73, u "canEncode"), (14, u "(C)Z"), (15, u "$assertionsDisabled"), (0, u "Z"), (98, .class_ 223), (1, u "java/lang/StringLatin1$LinesSpliterator"), (156, u "toBytes"), (1, u "(C)[B"), (7, .class_ 391), (0, u "java/lang/StringLatin1$CharsSpliterator")] 3

def k11m0 : Method := { name := "<init>", desc := "()V", sig := { parameters := [], returnType := none }, accessFlags := 0, code := none }
def k11c1 : Code := { maxStack := 2, maxLocals := 1, code := jdk_43_method_3_code, exceptionTable := #[], attributes := #[] }
def k11m1 : Method := { name := "canEncode", desc := "(C)Z", sig := { parameters := [.char], returnType := some .boolean }, accessFlags := 9, code := some k11c1 }
def k11c2 : Code := { maxStack := 4, maxLocals := 1, code := jdk_43_method_46_code, exceptionTable := #[], attributes := #[] }
def k11m2 : Method := { name := "toBytes", desc := "(C)[B", sig := { parameters := [.char], returnType := some (.array .byte) }, accessFlags := 9, code := some k11c2 }
/-- java/lang/StringLatin1 -/
def k11 : Class := { plain "java/lang/StringLatin1" (some 0) with
  accessFlags := 48
  interfaces := #[]
  cf := some (fileOf pool11 14 #[.nestMembers #[390, 221]] #[{ accessFlags := 0, nameIndex := 7, descriptorIndex := 8, attributes := #[] }, { accessFlags := 9, nameIndex := 90, descriptorIndex := 105, attributes := #[] }, { accessFlags := 9, nameIndex := 380, descriptorIndex := 382, attributes := #[] }] 48 4 #[] #[{ accessFlags := 4120, nameIndex := 121, descriptorIndex := 122, attributes := #[] }])
  fields := #[{ name := "$assertionsDisabled", type := .boolean, accessFlags := 4120, slot := 0, constantValue := 0 }]
  methods := #[k11m0, k11m1, k11m2]
  instanceTypes := #[]
  staticTypes := #[.boolean]
  resolved := Array.replicate 395 none
  statics := none }

def pool12 : Array CpInfo := pool [(2, .class_ 4), (1, u "java/lang/Object"), (0, u "<init>"), (0, u "()V"), (17, .class_ 26), (1, u "jdk/internal/util/Preconditions"), (28, .class_ 56), (0, u "jdk/internal/util/Preconditions$4"), (57, .class_ 115), (0, u "jdk/internal/util/Preconditions$1"), (7, u "SIOOBE_FORMATTER"), (0, u "Ljava/util/function/BiFunction;"), (0, .class_ 126), (0, u "jdk/internal/util/Preconditions$2"), (3, u "AIOOBE_FORMATTER"), (0, .class_ 132), (0, u "jdk/internal/util/Preconditions$3"), (3, u "IOOBE_FORMATTER")] 57

def k12m0 : Method := { name := "<init>", desc := "()V", sig := { parameters := [], returnType := none }, accessFlags := 1, code := none }
/-- jdk/internal/util/Preconditions -/
def k12 : Class := { plain "jdk/internal/util/Preconditions" (some 0) with
  accessFlags := 33
  interfaces := #[]
  cf := some (fileOf pool12 24 #[.nestMembers #[55, 131, 125, 114]] #[{ accessFlags := 1, nameIndex := 5, descriptorIndex := 6, attributes := #[] }] 33 2 #[] #[{ accessFlags := 25, nameIndex := 123, descriptorIndex := 124, attributes := #[] }, { accessFlags := 25, nameIndex := 130, descriptorIndex := 124, attributes := #[] }, { accessFlags := 25, nameIndex := 136, descriptorIndex := 124, attributes := #[] }])
  fields := #[{ name := "SIOOBE_FORMATTER", type := (.object "java/util/function/BiFunction"), accessFlags := 25, slot := 0, constantValue := 0 }, { name := "AIOOBE_FORMATTER", type := (.object "java/util/function/BiFunction"), accessFlags := 25, slot := 1, constantValue := 0 }, { name := "IOOBE_FORMATTER", type := (.object "java/util/function/BiFunction"), accessFlags := 25, slot := 2, constantValue := 0 }]
  methods := #[k12m0]
  instanceTypes := #[]
  staticTypes := #[(.object "java/util/function/BiFunction"), (.object "java/util/function/BiFunction"), (.object "java/util/function/BiFunction")]
  resolved := Array.replicate 194 none
  statics := some 2 }

def pool13 : Array CpInfo := pool [(9, u "<init>"), (6, .class_ 18), (1, u "java/lang/Object"), (0, u "()V"), (1, .class_ 23), (1, u "jdk/internal/util/ArraysSupport"), (0, u "LOG2_ARRAY_LONG_INDEX_SCALE"), (0, u "I"), (2, u "U"), (0, u "Ljdk/internal/misc/Unsafe;"), (8, u "BIG_ENDIAN"), (0, u "Z"), (8, u "LOG2_BYTE_BIT_SIZE"), (4, u "LOG2_ARRAY_INT_INDEX_SCALE"), (54, u "JLA"), (0, u "Ljdk/internal/access/JavaLangAccess;"), (11, u "LOG2_ARRAY_BOOLEAN_INDEX_SCALE"), (9, u "LOG2_ARRAY_BYTE_INDEX_SCALE"), (5, u "LOG2_ARRAY_CHAR_INDEX_SCALE"), (5, u "LOG2_ARRAY_SHORT_INDEX_SCALE"), (18, u "LOG2_ARRAY_FLOAT_INDEX_SCALE"), (24, u "LOG2_ARRAY_DOUBLE_INDEX_SCALE"), (89, u "T_BOOLEAN"), (2, u "T_CHAR"), (1, u "T_FLOAT"), (1, u "T_DOUBLE"), (1, u "T_BYTE"), (1, u "T_SHORT"), (1, u "T_INT"), (1, u "T_LONG"), (1, u "SOFT_MAX_ARRAY_LENGTH")] 83

def k13m0 : Method := { name := "<init>", desc := "()V", sig := { parameters := [], returnType := none }, accessFlags := 2, code := none }
/-- jdk/internal/util/ArraysSupport -/
def k13 : Class := { plain "jdk/internal/util/ArraysSupport" (some 0) with
  accessFlags := 33
  interfaces := #[]
  cf := some (fileOf pool13 21 #[] #[{ accessFlags := 2, nameIndex := 9, descriptorIndex := 19, attributes := #[] }] 33 16 #[] #[{ accessFlags := 24, nameIndex := 28, descriptorIndex := 29, attributes := #[] }, { accessFlags := 26, nameIndex := 38, descriptorIndex := 39, attributes := #[] }, { accessFlags := 25, nameIndex := 121, descriptorIndex := 25, attributes := #[] }, { accessFlags := 25, nameIndex := 131, descriptorIndex := 25, attributes := #[] }, { accessFlags := 25, nameIndex := 137, descriptorIndex := 25, attributes := #[] }, { accessFlags := 25, nameIndex := 143, descriptorIndex := 25, attributes := #[] }, { accessFlags := 25, nameIndex := 53, descriptorIndex := 25, attributes := #[] }, { accessFlags := 25, nameIndex := 24, descriptorIndex := 25, attributes := #[] }, { accessFlags := 25, nameIndex := 162, descriptorIndex := 25, attributes := #[] }, { accessFlags := 25, nameIndex := 187, descriptorIndex := 25, attributes := #[] }, { accessFlags := 26, nameIndex := 48, descriptorIndex := 25, attributes := #[] }, { accessFlags := 25, nameIndex := 277, descriptorIndex := 25, attributes := #[] }, { accessFlags := 25, nameIndex := 280, descriptorIndex := 25, attributes := #[] }, { accessFlags := 25, nameIndex := 282, descriptorIndex := 25, attributes := #[] }, { accessFlags := 25, nameIndex := 284, descriptorIndex := 25, attributes := #[] }, { accessFlags := 25, nameIndex := 286, descriptorIndex := 25, attributes := #[] }, { accessFlags := 25, nameIndex := 288, descriptorIndex := 25, attributes := #[] }, { accessFlags := 25, nameIndex := 290, descriptorIndex := 25, attributes := #[] }, { accessFlags := 25, nameIndex := 292, descriptorIndex := 25, attributes := #[] }, { accessFlags := 26, nameIndex := 108, descriptorIndex := 109, attributes := #[] }, { accessFlags := 25, nameIndex := 294, descriptorIndex := 25, attributes := #[] }])
  fields := #[{ name := "U", type := (.object "jdk/internal/misc/Unsafe"), accessFlags := 24, slot := 0, constantValue := 0 }, { name := "BIG_ENDIAN", type := .boolean, accessFlags := 26, slot := 1, constantValue := 0 }, { name := "LOG2_ARRAY_BOOLEAN_INDEX_SCALE", type := .int, accessFlags := 25, slot := 2, constantValue := 0 }, { name := "LOG2_ARRAY_BYTE_INDEX_SCALE", type := .int, accessFlags := 25, slot := 3, constantValue := 0 }, { name := "LOG2_ARRAY_CHAR_INDEX_SCALE", type := .int, accessFlags := 25, slot := 4, constantValue := 0 }, { name := "LOG2_ARRAY_SHORT_INDEX_SCALE", type := .int, accessFlags := 25, slot := 5, constantValue := 0 }, { name := "LOG2_ARRAY_INT_INDEX_SCALE", type := .int, accessFlags := 25, slot := 6, constantValue := 0 }, { name := "LOG2_ARRAY_LONG_INDEX_SCALE", type := .int, accessFlags := 25, slot := 7, constantValue := 0 }, { name := "LOG2_ARRAY_FLOAT_INDEX_SCALE", type := .int, accessFlags := 25, slot := 8, constantValue := 0 }, { name := "LOG2_ARRAY_DOUBLE_INDEX_SCALE", type := .int, accessFlags := 25, slot := 9, constantValue := 0 }, { name := "LOG2_BYTE_BIT_SIZE", type := .int, accessFlags := 26, slot := 10, constantValue := 0 }, { name := "T_BOOLEAN", type := .int, accessFlags := 25, slot := 11, constantValue := 0 }, { name := "T_CHAR", type := .int, accessFlags := 25, slot := 12, constantValue := 0 }, { name := "T_FLOAT", type := .int, accessFlags := 25, slot := 13, constantValue := 0 }, { name := "T_DOUBLE", type := .int, accessFlags := 25, slot := 14, constantValue := 0 }, { name := "T_BYTE", type := .int, accessFlags := 25, slot := 15, constantValue := 0 }, { name := "T_SHORT", type := .int, accessFlags := 25, slot := 16, constantValue := 0 }, { name := "T_INT", type := .int, accessFlags := 25, slot := 17, constantValue := 0 }, { name := "T_LONG", type := .int, accessFlags := 25, slot := 18, constantValue := 0 }, { name := "JLA", type := (.object "jdk/internal/access/JavaLangAccess"), accessFlags := 26, slot := 19, constantValue := 0 }, { name := "SOFT_MAX_ARRAY_LENGTH", type := .int, accessFlags := 25, slot := 20, constantValue := 0 }]
  methods := #[k13m0]
  instanceTypes := #[]
  staticTypes := #[(.object "jdk/internal/misc/Unsafe"), .boolean, .int, .int, .int, .int, .int, .int, .int, .int, .int, .int, .int, .int, .int, .int, .int, .int, .int, (.object "jdk/internal/access/JavaLangAccess"), .int]
  resolved := Array.replicate 378 none
  statics := none }

def pool14 : Array CpInfo := pool [(1, u "java/lang/Cloneable"), (0, .class_ 1), (0, u "java/lang/Object"), (0, .class_ 3)] 3

/-- java/lang/Cloneable -/
def k14 : Class := { plain "java/lang/Cloneable" (some 0) with
  accessFlags := 1537
  interfaces := #[]
  cf := some (fileOf pool14 2 #[] #[] 1537 4 #[] #[])
  fields := #[]
  methods := #[]
  instanceTypes := #[]
  staticTypes := #[]
  resolved := Array.replicate 8 none
  statics := none }

/-- the primitive byte -/
def k15 : Class := { plain "byte" none with kind := .primitive 'B', accessFlags := 0x411 }
/-- [B -/
def k16 : Class := { plain "[B" (some 0) with kind := .array 15 .byte, interfaces := #[14, 4], accessFlags := 1041 }

/-- the primitive char -/
def k17 : Class := { plain "char" none with kind := .primitive 'C', accessFlags := 0x411 }
/-- [C -/
def k18 : Class := { plain "[C" (some 0) with kind := .array 17 .char, interfaces := #[14, 4], accessFlags := 1041 }

/-- the primitive int -/
def k19 : Class := { plain "int" none with kind := .primitive 'I', accessFlags := 0x411 }
/-- [I -/
def k20 : Class := { plain "[I" (some 0) with kind := .array 19 .int, interfaces := #[14, 4], accessFlags := 1041 }

/-- [Ljava/lang/String; -/
def k21 : Class := { plain "[Ljava/lang/String;" (some 0) with kind := .array 9 (.object "java/lang/String"), interfaces := #[14, 4], accessFlags := 1041 }

def heap : Heap := #[{ cls := 6, slots := #[.ref 3, .ref 4, .ref 5, .null], vm := .statics 6 },
  { cls := 9, slots := #[.long 0, .int 1, .null, .int 0, .null, .int 0, .int 0], vm := .statics 9 },
  { cls := 12, slots := #[.null, .null, .null], vm := .statics 12 },
  { cls := 6, slots := #[.null, .int 0, .int 0, .null, .int 0, .int 0], vm := .none },
  { cls := 6, slots := #[.null, .int 1, .int 0, .null, .int 1, .int 0], vm := .none },
  { cls := 6, slots := #[.null, .int 2, .int 0, .null, .int 1, .int 1], vm := .none }]
def classes : Array Class := #[k0, k1, k2, k3, k4, k5, k6, k7, k8, k9, k10, k11, k12, k13, k14, k15, k16, k17, k18, k19, k20, k21]
def interned : List (Array UInt16 × Addr) := []
def slotsUsed : Nat := 32
def theMethod : MethodId := ⟨1, 2⟩
def args0 : Array Value := #[.int 0, .int 1, .int 2, .int 3, .int 4, .int 5]
def aboutOver (below : List Frame) : State where
  vm := { classes := classes, interned := interned.toArray }
  heap := heap
  slotsUsed := slotsUsed
  threads := #[{ frames := .invoking theMethod args0 :: below }]
def below0 : List Frame := [.native { method := ⟨0, 0⟩, args := #[] }]
def about1 : State := aboutOver below0
def p0 : Program := .bare "" "" ""
def e0 : Env := launch0.env 0 0 0
theorem w_frames : about1.frames = Frame.invoking theMethod args0 :: below0 := rfl
set_option maxRecDepth 65536 in
theorem w_args : argsFit about1.vm theMethod args0 = true := by decide +kernel
set_option maxRecDepth 65536 in
theorem w_heap : heapFits about1 = true := by decide +kernel
set_option maxRecDepth 65536 in
theorem w_runnable : about1.curStatus? = some .runnable := by decide +kernel
set_option maxRecDepth 65536 in
theorem w_alone : about1.alone = true := by decide +kernel
set_option maxRecDepth 65536 in
theorem w_named : about1.methodNamed? x = some theMethod := by decide +kernel
set_option maxRecDepth 65536 in
theorem w_hears : about1.hears theMethod below0 = true := by decide +kernel
set_option maxRecDepth 65536 in
theorem w_ripe : about1.ripe theMethod args0 below0 = true := by decide +kernel
theorem w_running : about1.status = .running := rfl
set_option maxRecDepth 65536 in
theorem w_room : about1.hasRoom e0.platform room_1 = true :=
  launch0.hasRoom_least _ room_1 (by decide +kernel) (by decide +kernel) (by decide +kernel) (by decide +kernel) (by decide +kernel) (by decide +kernel)
theorem allAtoms_all (ts : List Jvm.Cond) (a : Array Jvm.Value) (st : Jvm.State) : (allAtoms ts).before a st = ts.all (fun c => c.before a st) := by
  induction ts with
  | nil => rfl
  | cons c t ih =>
    show (Jvm.Cond.and c (allAtoms t)).before a st = _
    rw [Jvm.Cond.before_and, ih, List.all_cons]
def words1 : List Jvm.Cond := Jvm.Cond.code x code maxLocals ret :: tables_1
/-- a 'code' word, met by the world's own term for the bytes: nothing is compared byte by byte -/
theorem code_word {y : MethodName} {bytes : ByteArray} {mx : Nat} {rt : Option FieldType} {a : Array Value} {s : State} {m : MethodId} {meth : Method} {c : Code} (h1 : s.methodNamed? y = some m) (h2 : s.vm.method? m = some meth) (h3 : meth.code = some c) (h4 : c.code = bytes)
    (h5 : (c.maxLocals == mx && c.exceptionTable.isEmpty && decide (c.maxStack ≤ mostOperands) && decide (meth.sig.returnType = rt) && !meth.locks && decide (parseMethodDescriptor y.desc = some meth.sig)) = true) : (Jvm.Cond.code y bytes mx rt).before a s = true := by
  simp only [Bool.and_eq_true, beq_iff_eq, Bool.not_eq_true', decide_eq_true_eq] at h5
  obtain ⟨⟨⟨⟨⟨g1, g2⟩, g3⟩, g4⟩, g5⟩, g6⟩ := h5
  simp [Cond.before, Cond.holds, Cond.value, h1, h2, h3, h4, g1, g2, g3, g4, g5, g6]
def isCode : Jvm.Cond → Bool
  | .code _ _ _ _ => true
  | _ => false
theorem all_split {L : List Jvm.Cond} {P : Jvm.Cond → Bool} (h1 : L.all (fun c => isCode c || P c) = true) (h2 : ∀ c ∈ L.filter isCode, P c = true) : L.all P = true := by
  refine List.all_eq_true.mpr fun c hc => ?_
  have h := List.all_eq_true.mp h1 c hc
  rcases Bool.eq_false_or_eq_true (isCode c) with hi | hi
  · exact h2 c (List.mem_filter.mpr ⟨hc, hi⟩)
  · simpa [hi] using h
set_option maxRecDepth 65536 in
theorem w_c0 : (Jvm.Cond.code x code maxLocals ret).before args0 about1 = true := code_word (m := ⟨1, 2⟩) (meth := k1m2) (c := k1c2) (by decide +kernel) rfl rfl rfl (by decide +kernel)
set_option maxRecDepth 65536 in
theorem w_c1 : (Jvm.Cond.code ({ cls := "com/example/libroute/libroute/pattern/ParameterKindSpanPinLaw", name := "seg", desc := "(I)Ljava/lang/String;" } : Jvm.MethodName) method_2_code (5 : Nat) (Option.some (Jvm.ClassFile.FieldType.object "java/lang/String"))).before args0 about1 = true := code_word (m := ⟨1, 1⟩) (meth := k1m1) (c := k1c1) (by decide +kernel) rfl rfl rfl (by decide +kernel)
set_option maxRecDepth 65536 in
theorem w_c2 : (Jvm.Cond.code ({ cls := "java/lang/String", name := "<init>", desc := "([C)V" } : Jvm.MethodName) jdk_42_method_3_code (2 : Nat) (Option.none : Option Jvm.ClassFile.FieldType)).before args0 about1 = true := code_word (m := ⟨9, 1⟩) (meth := k9m1) (c := k9c1) (by decide +kernel) rfl rfl rfl (by decide +kernel)
set_option maxRecDepth 65536 in
theorem w_c3 : (Jvm.Cond.code ({ cls := "java/lang/String", name := "<init>", desc := "([CIILjava/lang/Void;)V" } : Jvm.MethodName) jdk_42_method_149_code (6 : Nat) (Option.none : Option Jvm.ClassFile.FieldType)).before args0 about1 = true := code_word (m := ⟨9, 4⟩) (meth := k9m4) (c := k9c4) (by decide +kernel) rfl rfl rfl (by decide +kernel)
set_option maxRecDepth 65536 in
theorem w_c4 : (Jvm.Cond.code ({ cls := "java/lang/Object", name := "<init>", desc := "()V" } : Jvm.MethodName) object_method_1_code (1 : Nat) (Option.none : Option Jvm.ClassFile.FieldType)).before args0 about1 = true := code_word (m := ⟨0, 0⟩) (meth := k0m0) (c := k0c0) (by decide +kernel) rfl rfl rfl (by decide +kernel)
set_option maxRecDepth 65536 in
theorem w_c5 : (Jvm.Cond.code ({ cls := "java/lang/StringUTF16", name := "compress", desc := "([CII)[B" } : Jvm.MethodName) jdk_52_method_16_code (6 : Nat) (Option.some (Jvm.ClassFile.FieldType.array Jvm.ClassFile.FieldType.byte))).before args0 about1 = true := code_word (m := ⟨10, 2⟩) (meth := k10m2) (c := k10c2) (by decide +kernel) rfl rfl rfl (by decide +kernel)
set_option maxRecDepth 65536 in
theorem w_c6 : (Jvm.Cond.code ({ cls := "java/lang/StringUTF16", name := "compress", desc := "([CI[BII)I" } : Jvm.MethodName) jdk_52_method_21_code (7 : Nat) (Option.some Jvm.ClassFile.FieldType.int)).before args0 about1 = true := code_word (m := ⟨10, 3⟩) (meth := k10m3) (c := k10c3) (by decide +kernel) rfl rfl rfl (by decide +kernel)
set_option maxRecDepth 65536 in
theorem w_c7 : (Jvm.Cond.code ({ cls := "java/lang/StringUTF16", name := "coderFromArrayLen", desc := "([BI)B" } : Jvm.MethodName) jdk_52_method_15_code (2 : Nat) (Option.some Jvm.ClassFile.FieldType.byte)).before args0 about1 = true := code_word (m := ⟨10, 1⟩) (meth := k10m1) (c := k10c1) (by decide +kernel) rfl rfl rfl (by decide +kernel)
set_option maxRecDepth 65536 in
theorem w_c8 : (Jvm.Cond.code ({ cls := "java/lang/String", name := "valueOf", desc := "(C)Ljava/lang/String;" } : Jvm.MethodName) jdk_42_method_139_code (1 : Nat) (Option.some (Jvm.ClassFile.FieldType.object "java/lang/String"))).before args0 about1 = true := code_word (m := ⟨9, 3⟩) (meth := k9m3) (c := k9c3) (by decide +kernel) rfl rfl rfl (by decide +kernel)
set_option maxRecDepth 65536 in
theorem w_c9 : (Jvm.Cond.code ({ cls := "java/lang/StringLatin1", name := "canEncode", desc := "(C)Z" } : Jvm.MethodName) jdk_43_method_3_code (1 : Nat) (Option.some Jvm.ClassFile.FieldType.boolean)).before args0 about1 = true := code_word (m := ⟨11, 1⟩) (meth := k11m1) (c := k11c1) (by decide +kernel) rfl rfl rfl (by decide +kernel)
set_option maxRecDepth 65536 in
theorem w_c10 : (Jvm.Cond.code ({ cls := "java/lang/StringLatin1", name := "toBytes", desc := "(C)[B" } : Jvm.MethodName) jdk_43_method_46_code (1 : Nat) (Option.some (Jvm.ClassFile.FieldType.array Jvm.ClassFile.FieldType.byte))).before args0 about1 = true := code_word (m := ⟨11, 2⟩) (meth := k11m2) (c := k11c2) (by decide +kernel) rfl rfl rfl (by decide +kernel)
set_option maxRecDepth 65536 in
theorem w_c11 : (Jvm.Cond.code ({ cls := "java/lang/String", name := "<init>", desc := "([BB)V" } : Jvm.MethodName) jdk_42_method_151_code (3 : Nat) (Option.none : Option Jvm.ClassFile.FieldType)).before args0 about1 = true := code_word (m := ⟨9, 5⟩) (meth := k9m5) (c := k9c5) (by decide +kernel) rfl rfl rfl (by decide +kernel)
set_option maxRecDepth 65536 in
theorem w_c12 : (Jvm.Cond.code ({ cls := "com/example/libroute/libroute/pattern/ParameterKind", name := "span", desc := "([Ljava/lang/String;I)I" } : Jvm.MethodName) prog_11_method_7_code (5 : Nat) (Option.some Jvm.ClassFile.FieldType.int)).before args0 about1 = true := code_word (m := ⟨6, 0⟩) (meth := k6m0) (c := k6c0) (by decide +kernel) rfl rfl rfl (by decide +kernel)
set_option maxRecDepth 65536 in
theorem w_c13 : (Jvm.Cond.code ({ cls := "java/lang/String", name := "isEmpty", desc := "()Z" } : Jvm.MethodName) jdk_42_method_55_code (1 : Nat) (Option.some Jvm.ClassFile.FieldType.boolean)).before args0 about1 = true := code_word (m := ⟨9, 2⟩) (meth := k9m2) (c := k9c2) (by decide +kernel) rfl rfl rfl (by decide +kernel)
def codes1 : List Jvm.Cond := [Jvm.Cond.code x code maxLocals ret, Jvm.Cond.code ({ cls := "com/example/libroute/libroute/pattern/ParameterKindSpanPinLaw", name := "seg", desc := "(I)Ljava/lang/String;" } : Jvm.MethodName) method_2_code (5 : Nat) (Option.some (Jvm.ClassFile.FieldType.object "java/lang/String")), Jvm.Cond.code ({ cls := "java/lang/String", name := "<init>", desc := "([C)V" } : Jvm.MethodName) jdk_42_method_3_code (2 : Nat) (Option.none : Option Jvm.ClassFile.FieldType), Jvm.Cond.code ({ cls := "java/lang/String", name := "<init>", desc := "([CIILjava/lang/Void;)V" } : Jvm.MethodName) jdk_42_method_149_code (6 : Nat) (Option.none : Option Jvm.ClassFile.FieldType), Jvm.Cond.code ({ cls := "java/lang/Object", name := "<init>", desc := "()V" } : Jvm.MethodName) object_method_1_code (1 : Nat) (Option.none : Option Jvm.ClassFile.FieldType), Jvm.Cond.code ({ cls := "java/lang/StringUTF16", name := "compress", desc := "([CII)[B" } : Jvm.MethodName) jdk_52_method_16_code (6 : Nat) (Option.some (Jvm.ClassFile.FieldType.array Jvm.ClassFile.FieldType.byte)), Jvm.Cond.code ({ cls := "java/lang/StringUTF16", name := "compress", desc := "([CI[BII)I" } : Jvm.MethodName) jdk_52_method_21_code (7 : Nat) (Option.some Jvm.ClassFile.FieldType.int), Jvm.Cond.code ({ cls := "java/lang/StringUTF16", name := "coderFromArrayLen", desc := "([BI)B" } : Jvm.MethodName) jdk_52_method_15_code (2 : Nat) (Option.some Jvm.ClassFile.FieldType.byte), Jvm.Cond.code ({ cls := "java/lang/String", name := "valueOf", desc := "(C)Ljava/lang/String;" } : Jvm.MethodName) jdk_42_method_139_code (1 : Nat) (Option.some (Jvm.ClassFile.FieldType.object "java/lang/String")), Jvm.Cond.code ({ cls := "java/lang/StringLatin1", name := "canEncode", desc := "(C)Z" } : Jvm.MethodName) jdk_43_method_3_code (1 : Nat) (Option.some Jvm.ClassFile.FieldType.boolean), Jvm.Cond.code ({ cls := "java/lang/StringLatin1", name := "toBytes", desc := "(C)[B" } : Jvm.MethodName) jdk_43_method_46_code (1 : Nat) (Option.some (Jvm.ClassFile.FieldType.array Jvm.ClassFile.FieldType.byte)), Jvm.Cond.code ({ cls := "java/lang/String", name := "<init>", desc := "([BB)V" } : Jvm.MethodName) jdk_42_method_151_code (3 : Nat) (Option.none : Option Jvm.ClassFile.FieldType), Jvm.Cond.code ({ cls := "com/example/libroute/libroute/pattern/ParameterKind", name := "span", desc := "([Ljava/lang/String;I)I" } : Jvm.MethodName) prog_11_method_7_code (5 : Nat) (Option.some Jvm.ClassFile.FieldType.int), Jvm.Cond.code ({ cls := "java/lang/String", name := "isEmpty", desc := "()Z" } : Jvm.MethodName) jdk_42_method_55_code (1 : Nat) (Option.some Jvm.ClassFile.FieldType.boolean)]
set_option maxRecDepth 65536 in
theorem codes_eq : words1.filter isCode = codes1 := rfl
theorem w_codes : ∀ c ∈ words1.filter isCode, c.before args0 about1 = true := by
  rw [codes_eq]
  intro c hc
  simp only [codes1, List.mem_cons, List.not_mem_nil, or_false] at hc
  rcases hc with rfl | rfl | rfl | rfl | rfl | rfl | rfl | rfl | rfl | rfl | rfl | rfl | rfl | rfl
  · exact w_c0
  · exact w_c1
  · exact w_c2
  · exact w_c3
  · exact w_c4
  · exact w_c5
  · exact w_c6
  · exact w_c7
  · exact w_c8
  · exact w_c9
  · exact w_c10
  · exact w_c11
  · exact w_c12
  · exact w_c13
set_option maxRecDepth 65536 in
theorem w_t1 : (words1.take 24).all (fun c => isCode c || c.before args0 about1) = true := by decide +kernel
set_option maxRecDepth 65536 in
theorem w_t2 : ((words1.drop 24).take 24).all (fun c => isCode c || c.before args0 about1) = true := by decide +kernel
set_option maxRecDepth 65536 in
theorem w_t3 : (((words1.drop 24).drop 24).take 24).all (fun c => isCode c || c.before args0 about1) = true := by decide +kernel
set_option maxRecDepth 65536 in
theorem w_t4 : (((words1.drop 24).drop 24).drop 24).all (fun c => isCode c || c.before args0 about1) = true := by decide +kernel
theorem w_tables : (allAtoms (Jvm.Cond.code x code maxLocals ret :: tables_1)).before args0 about1 = true := by
  rw [allAtoms_all]
  show words1.all (fun c => c.before args0 about1) = true
  refine all_split ?_ w_codes
  rw [← List.take_append_drop 24 words1, List.all_append, w_t1, ← List.take_append_drop 24 (words1.drop 24), List.all_append, w_t2, ← List.take_append_drop 24 ((words1.drop 24).drop 24), List.all_append, w_t3, w_t4]
  rfl
set_option maxRecDepth 65536 in
theorem w_rest : rest_1_c.before args0 about1 = true := by decide +kernel
set_option maxRecDepth 65536 in
theorem w_case : (Jvm.Cond.and given_1 narrow_1).before args0 about1 = true := by decide +kernel
set_option maxRecDepth 65536 in
theorem w_consts : constsHeld consts_1 about1 := Jvm.Lit.constsHeldB_iff.mp (by decide +kernel)
theorem w_applies : (headSpec (Jvm.Cond.code x code maxLocals ret :: tables_1) room_1).applies x e0.platform about1 = true :=
  (Spec.applies_iff w_frames).mpr ⟨w_running, w_runnable, w_alone, w_named, w_hears, w_ripe, w_room, w_tables⟩
theorem atStart : AtStart classFile x code maxLocals ret World_1 tables_1 room_1 Calls_1 rest_1 Pre_1 launch0 p0 e0 about1 theMethod args0 below0 :=
  ⟨lists_1, trivial, launch0.admits_env _ _ _, launch0.least_env, fairChoices_fair.cas, fairChoices_fair.clock, w_frames, w_args, w_heap, w_applies, ⟨w_consts, trivial⟩, w_rest, w_case⟩
end start1
theorem witness_1 : WitnessClaimed_1 := ⟨start1.p0, start1.e0, start1.about1, start1.theMethod, start1.args0, start1.below0, start1.atStart⟩
end Jvm.Pilot.@@N@@
