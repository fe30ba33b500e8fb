import JvmDerived
import JvmDerived.Pilot.@@N@@Statement
import JvmDerived.Pilot.@@N@@Code
set_option linter.unusedVariables false
set_option linter.unusedSimpArgs false
/- laws to paste: Road.backV, Road.backArv, Road.codOf, Road.lenW, Road.chN, lo8_mask (cut by pick.py; bodies as the Statement names them) -/
namespace Jvm.Pilot.@@N@@
namespace StrChars
open Jvm Sem ClassFile Op Lib Jvm.Stand Jvm.Free.XT Jvm.Free.ALB Jvm.Free.JM Jvm.Free
open Jvm.Lib.Cold (StaticIs)
/-- a char array whose places are chars -/
def Ch (a : Addr) (A : Cell) (U : State) : Prop := Arr .char a A U ∧ Typed .char A
theorem Ch.mv {a : Addr} {A : Cell} {U U' : State} (h : Ch a A U) (hal : U.vm.Alike U'.vm) (hh : U'.heap = U.heap) : Ch a A U' := ⟨h.1.mv hal hh, h.2⟩
theorem Ch.keep {a : Addr} {A : Cell} {U U' : State} (h : Ch a A U) (hal : U.vm.Alike U'.vm) (hk : U'.heap[a]? = some A) : Ch a A U' := ⟨h.1.keep hal hk, h.2⟩
/-- what place i of a char[]'s cell holds -/
def cv (A : Cell) (i : Nat) : Int32 := match A.slots[i]? with | some (.int x) => x | _ => 0
theorem Ch.get {a : Addr} {A : Cell} {U : State} (h : Ch a A U) {i : Nat} (hi : i < A.slots.size) : A.slots[i]? = some (.int (cv A i)) := by
  have e := Array.getElem?_eq_getElem hi
  have f := h.2 i _ e
  unfold cv; rw [e]
  generalize A.slots[i] = v at f
  cases v <;> simp [fits] at f ⊢
/-- the byte that i2b leaves of a char -/
def lo8 (x : Int32) : Int32 := x.toInt8.toInt32
theorem fits_lo8 (y : Int32) : fits .byte (.int (lo8 y)) = true := by
  have h1 := y.toInt8.le_toInt
  have h2 := y.toInt8.toInt_lt
  simp only [lo8, fits, Bool.and_eq_true, decide_eq_true_eq, Int32.le_iff_toInt_le, Int8.toInt_toInt32, show (-128 : Int32).toInt = -128 from by decide, show (127 : Int32).toInt = 127 from by decide]
  omega
/-- A' is A but that each place j of lo .. hi - 1 holds f j -/
def Laid (A A' : Cell) (lo hi : Nat) (f : Nat → Value) : Prop := A'.cls = A.cls ∧ A'.vm = A.vm ∧ A'.slots.size = A.slots.size ∧ ∀ i, A'.slots[i]? = if lo ≤ i ∧ i < hi then some (f i) else A.slots[i]?
theorem Laid.zero (A : Cell) (lo : Nat) (f : Nat → Value) : Laid A A lo (lo + 0) f := ⟨rfl, rfl, rfl, fun i => by rw [if_neg (by omega)]⟩
theorem Laid.step {A Ak : Cell} {lo k : Nat} {f : Nat → Value} {v : Value} (h : Laid A Ak lo k f) (hlo : lo ≤ k) (hk : k < Ak.slots.size) (hv : v = f k) : Laid A (Ak.setSlot k v) lo (k + 1) f := by
  refine ⟨h.1, h.2.1, by simpa [Cell.setSlot] using h.2.2.1, fun i => ?_⟩
  by_cases e : k = i
  · subst e; rw [Cell.slots_setSlot_self v hk, if_pos (by omega), hv]
  · rw [Cell.slots_setSlot_ne v e, h.2.2.2 i]
    by_cases q : lo ≤ i ∧ i < k
    · rw [if_pos q, if_pos (by omega)]
    · rw [if_neg q, if_neg (by omega)]
def U16 : String := "java/lang/StringUTF16"
namespace Cmp5
def yN : MethodName := ⟨"java/lang/StringUTF16", "compress", "([CI[BII)I"⟩
abbrev yB : ByteArray := jdk_52_method_21_code
theorem d0 : decode yB 0 = .ok (.iconst 0, 1) := by decide +kernel
theorem d1 : decode yB 1 = .ok (.istore 5, 2) := by decide +kernel
theorem d3 : decode yB 3 = .ok (.iload 5, 2) := by decide +kernel
theorem d5 : decode yB 5 = .ok (.iload 4, 2) := by decide +kernel
theorem d7 : decode yB 7 = .ok (.if_icmp (.ge) 37, 3) := by decide +kernel
theorem d10 : decode yB 10 = .ok (.aload_n 0, 1) := by decide +kernel
theorem d11 : decode yB 11 = .ok (.iload_n 1, 1) := by decide +kernel
theorem d12 : decode yB 12 = .ok (.caload, 1) := by decide +kernel
theorem d13 : decode yB 13 = .ok (.istore 6, 2) := by decide +kernel
theorem d15 : decode yB 15 = .ok (.iload 6, 2) := by decide +kernel
theorem d17 : decode yB 17 = .ok (.sipush 255, 3) := by decide +kernel
theorem d20 : decode yB 20 = .ok (.if_icmp (.le) 6, 3) := by decide +kernel
theorem d26 : decode yB 26 = .ok (.aload_n 2, 1) := by decide +kernel
theorem d27 : decode yB 27 = .ok (.iload_n 3, 1) := by decide +kernel
theorem d28 : decode yB 28 = .ok (.iload 6, 2) := by decide +kernel
theorem d30 : decode yB 30 = .ok (.i2b, 1) := by decide +kernel
theorem d31 : decode yB 31 = .ok (.bastore, 1) := by decide +kernel
theorem d32 : decode yB 32 = .ok (.iinc 1 1, 3) := by decide +kernel
theorem d35 : decode yB 35 = .ok (.iinc 3 1, 3) := by decide +kernel
theorem d38 : decode yB 38 = .ok (.iinc 5 1, 3) := by decide +kernel
theorem d41 : decode yB 41 = .ok (.goto (-38), 3) := by decide +kernel
theorem d44 : decode yB 44 = .ok (.iload 4, 2) := by decide +kernel
theorem d46 : decode yB 46 = .ok (.ireturn, 1) := by decide +kernel
def site : List Cond := []
def tab : Cond := tabOf yN yB 7 (some .int) site
def P (b : Addr) (A : Cell) (d : Addr) (B : Cell) (o q len : Nat) (args : Array Value) (s : State) : Prop := args = #[.ref b, .int (Int32.ofNat o), .ref d, .int (Int32.ofNat q), .int (Int32.ofNat len)] ∧ Ch b A s ∧ Arr .byte d B s ∧ b ≠ d ∧ o + len ≤ A.slots.size ∧ q + len ≤ B.slots.size ∧ ∀ i, i < len → ¬ 255 < cv A (o + i)
def E (b : Addr) (A : Cell) (d : Addr) (B : Cell) (o q len : Nat) (r : Option Value) (s u : State) : Prop := r = some (.int (Int32.ofNat len)) ∧ ∃ B', Put d B' s u ∧ Laid B B' q (q + len) (fun j => Value.int (lo8 (cv A (o + (j - q)))))
/-- no char of the range above 255: len; the places written hold each char's low byte -/
theorem law (l : Launch) (b : Addr) (A : Cell) (d : Addr) (B : Cell) (o q len : Nat) : Law l yN 5 5 0 0 yB 7 (some .int) site (P b A d B o q len) (E b A d B o q len) (copyLocs d q len) 0 0 := by
  refine Law.of_walk (plainFor_of_name (by decide +kernel)) (by decide +kernel) (by decide +kernel) (by decide) (fun _ _ h => by rw [h.1]; rfl) (fun _ U U' hal hh h => ⟨h.1, h.2.1.mv hal hh, h.2.2.1.mv hal hh, h.2.2.2⟩) (fun r U U' V V' h1 hal h2 h => ⟨h.1, h.2.elim fun B' q => ⟨B', q.1.mv h1 h2, q.2⟩⟩) ?_
  intro p e s m args below meth c s₁ X0 hexec hbytes hml hret hlk hnm hown hh0 W hP
  obtain ⟨rfl, hA, hB, hne, l1, l2, hp⟩ := hP
  have c1 : Steps p.tables e below (s₁.setTop (entryFrame m #[.ref b, .int (Int32.ofNat o), .ref d, .int (Int32.ofNat q), .int (Int32.ofNat len)] 7)) (s₁.setTop (mkF m 0 #[.val (.ref b), .val (.int (Int32.ofNat o)), .val (.ref d), .val (.int (Int32.ofNat q)), .val (.int (Int32.ofNat len)), .unset, .unset] [])) := entry rfl
  have hA0 := hA.1.mv X0.warmed.alike hh0
  have hB0 := hB.mv X0.warmed.alike hh0
  have a31 := hA.1.2.2.2
  have c2 : Steps p.tables e below (s₁.setTop (entryFrame m #[.ref b, .int (Int32.ofNat o), .ref d, .int (Int32.ofNat q), .int (Int32.ofNat len)] 7)) (s₁.setTop (mkF m 3 #[.val (.ref b), .val (.int (Int32.ofNat o)), .val (.ref d), .val (.int (Int32.ofNat q)), .val (.int (Int32.ofNat len)), .val (.int 0), .unset] [])) := c1.trans (by
    refine iconstV X0.here hexec rfl 0 (hb hbytes d0) (by decide) ?_
    refine XS.istore X0.here hexec rfl (hb hbytes d1) rfl rfl ?_
    exact Steps.refl _)
  have loop : ∀ (r i : Nat), i + r = len → ∀ (z : Slot), (z = .unset ∨ ∃ w, z = .val w ∧ w.category = 1) → ∀ (Tl : State) (Bk : Cell), Stand p l e { frames := 0, locals := 0, cells := 0, slots := 0 } s m #[.ref b, .int (Int32.ofNat o), .ref d, .int (Int32.ofNat q), .int (Int32.ofNat len)] below meth c Tl ([] ++ copyLocs d q i) 0 0 → Put d Bk s₁ Tl → Laid B Bk q (q + i) (fun j => Value.int (lo8 (cv A (o + (j - q))))) →
      Steps p.tables e below (s₁.setTop (entryFrame m #[.ref b, .int (Int32.ofNat o), .ref d, .int (Int32.ofNat q), .int (Int32.ofNat len)] 7)) (Tl.setTop (mkF m 3 #[.val (.ref b), .val (.int (Int32.ofNat (o + i))), .val (.ref d), .val (.int (Int32.ofNat (q + i))), .val (.int (Int32.ofNat len)), .val (.int (Int32.ofNat i)), z] [])) → ∃ (T' : State) (B' : Cell) (z' : Slot), Stand p l e { frames := 0, locals := 0, cells := 0, slots := 0 } s m #[.ref b, .int (Int32.ofNat o), .ref d, .int (Int32.ofNat q), .int (Int32.ofNat len)] below meth c T' ([] ++ copyLocs d q len) 0 0 ∧ Put d B' s₁ T' ∧ Laid B B' q (q + len) (fun j => Value.int (lo8 (cv A (o + (j - q))))) ∧
      Steps p.tables e below (s₁.setTop (entryFrame m #[.ref b, .int (Int32.ofNat o), .ref d, .int (Int32.ofNat q), .int (Int32.ofNat len)] 7)) (T'.setTop (mkF m 3 #[.val (.ref b), .val (.int (Int32.ofNat (o + len))), .val (.ref d), .val (.int (Int32.ofNat (q + len))), .val (.int (Int32.ofNat len)), .val (.int (Int32.ofNat len)), z'] [])) := by
    intro r
    induction r with
    | zero =>
      intro i hi z hz Tl Bk Xl pl fl cl
      have hil : i = len := by omega
      rw [hil] at Xl fl cl
      exact ⟨Tl, Bk, z, Xl, pl, fl, cl⟩
    | succ r ih =>
      intro i hi z hz Tl Bk Xl pl fl cl
      have all := X0.warmed.alike.symm.trans Xl.warmed.alike
      have hAl := hA0.keep all (pl.other hne hA0.1)
      have hBk := hB0.like all pl.1 fl.1 fl.2.1 fl.2.2.1
      have hlt : q + i < Bk.slots.size := by rw [fl.2.2.1]; omega
      have c3 : Steps p.tables e below (s₁.setTop (entryFrame m #[.ref b, .int (Int32.ofNat o), .ref d, .int (Int32.ofNat q), .int (Int32.ofNat len)] 7)) (Tl.setTop (mkF m 12 #[.val (.ref b), .val (.int (Int32.ofNat (o + i))), .val (.ref d), .val (.int (Int32.ofNat (q + i))), .val (.int (Int32.ofNat len)), .val (.int (Int32.ofNat i)), z] [.int (Int32.ofNat (o + i)), .ref b])) := cl.trans (by
        refine XS.iload Xl.here hexec rfl (hb hbytes d3) rfl ?_
        refine XS.iload Xl.here hexec rfl (hb hbytes d5) rfl ?_
        refine XS.icmpNo Xl.here hexec rfl (hb hbytes d7) rfl (ii_ge_f (lt32 (by omega) (by omega))) ?_
        refine XS.aloadN Xl.here hexec rfl (hb hbytes d10) rfl rfl ?_
        refine XS.iloadN Xl.here hexec rfl (hb hbytes d11) rfl ?_
        exact Steps.refl _)
      have c4 : Steps p.tables e below (s₁.setTop (entryFrame m #[.ref b, .int (Int32.ofNat o), .ref d, .int (Int32.ofNat q), .int (Int32.ofNat len)] 7)) (Tl.setTop (mkF m 13 #[.val (.ref b), .val (.int (Int32.ofNat (o + i))), .val (.ref d), .val (.int (Int32.ofNat (q + i))), .val (.int (Int32.ofNat len)), .val (.int (Int32.ofNat i)), z] [.int (cv A (o + i))])) := c3.trans (by
        refine Xl.aget hexec hAl rfl (hA.get (i := o + i) (by omega)) rfl rfl (hb hbytes d12) ?_
        exact Steps.refl _)
      have c5 : Steps p.tables e below (s₁.setTop (entryFrame m #[.ref b, .int (Int32.ofNat o), .ref d, .int (Int32.ofNat q), .int (Int32.ofNat len)] 7)) (Tl.setTop (mkF m 15 #[.val (.ref b), .val (.int (Int32.ofNat (o + i))), .val (.ref d), .val (.int (Int32.ofNat (q + i))), .val (.int (Int32.ofNat len)), .val (.int (Int32.ofNat i)), .val (.int (cv A (o + i)))] [])) := c4.trans (by
        refine XS.istoreS Xl.here hexec rfl (hb hbytes d13) rfl rfl hz ?_
        exact Steps.refl _)
      have c6 : Steps p.tables e below (s₁.setTop (entryFrame m #[.ref b, .int (Int32.ofNat o), .ref d, .int (Int32.ofNat q), .int (Int32.ofNat len)] 7)) (Tl.setTop (mkF m 31 #[.val (.ref b), .val (.int (Int32.ofNat (o + i))), .val (.ref d), .val (.int (Int32.ofNat (q + i))), .val (.int (Int32.ofNat len)), .val (.int (Int32.ofNat i)), .val (.int (cv A (o + i)))] [.int (lo8 (cv A (o + i))), .int (Int32.ofNat (q + i)), .ref d])) := c5.trans (by
        refine XS.iload Xl.here hexec rfl (hb hbytes d15) rfl ?_
        refine sipushV Xl.here hexec rfl 255 (hb hbytes d17) (by decide) ?_
        refine XS.icmpYes Xl.here hexec rfl (pc0 := 20) rfl (hb hbytes d20) rfl (ii_le_t (hp i (by omega))) (by decide) rfl ?_
        refine XS.aloadN Xl.here hexec rfl (hb hbytes d26) rfl rfl ?_
        refine XS.iloadN Xl.here hexec rfl (hb hbytes d27) rfl ?_
        refine XS.iload Xl.here hexec rfl (hb hbytes d28) rfl ?_
        refine i2b Xl.here hexec rfl (hb hbytes d30) rfl ?_
        exact Steps.refl _)
      obtain ⟨T7, X7, p7, st7⟩ := Xl.aput hexec hBk rfl hlt rfl (fits_lo8 (cv A (o + i))) (g := (mkF m 31 #[.val (.ref b), .val (.int (Int32.ofNat (o + i))), .val (.ref d), .val (.int (Int32.ofNat (q + i))), .val (.int (Int32.ofNat len)), .val (.int (Int32.ofNat i)), .val (.int (cv A (o + i)))] [.int (lo8 (cv A (o + i))), .int (Int32.ofNat (q + i)), .ref d])) rfl (rest := []) rfl (hb hbytes d31)
      have c8 : Steps p.tables e below (s₁.setTop (entryFrame m #[.ref b, .int (Int32.ofNat o), .ref d, .int (Int32.ofNat q), .int (Int32.ofNat len)] 7)) (T7.setTop (mkF m 32 #[.val (.ref b), .val (.int (Int32.ofNat (o + i))), .val (.ref d), .val (.int (Int32.ofNat (q + i))), .val (.int (Int32.ofNat len)), .val (.int (Int32.ofNat i)), .val (.int (cv A (o + i)))] [])) := c6.trans (st7 _ (Steps.refl _))
      have c9 : Steps p.tables e below (s₁.setTop (entryFrame m #[.ref b, .int (Int32.ofNat o), .ref d, .int (Int32.ofNat q), .int (Int32.ofNat len)] 7)) (T7.setTop (mkF m 3 #[.val (.ref b), .val (.int (Int32.ofNat (o + i) + 1)), .val (.ref d), .val (.int (Int32.ofNat (q + i) + 1)), .val (.int (Int32.ofNat len)), .val (.int (Int32.ofNat i + 1)), .val (.int (cv A (o + i)))] [])) := c8.trans (by
        refine iincV X7.here hexec rfl 1 (hb hbytes d32) (by decide) rfl rfl ?_
        refine iincV X7.here hexec rfl 1 (hb hbytes d35) (by decide) rfl rfl ?_
        refine iincV X7.here hexec rfl 1 (hb hbytes d38) (by decide) rfl rfl ?_
        refine XS.goto X7.here hexec rfl (pc0 := 41) rfl (hb hbytes d41) (by decide) rfl ?_
        exact Steps.refl _)
      have c10 : Steps p.tables e below (s₁.setTop (entryFrame m #[.ref b, .int (Int32.ofNat o), .ref d, .int (Int32.ofNat q), .int (Int32.ofNat len)] 7)) (T7.setTop (mkF m 3 #[.val (.ref b), .val (.int (Int32.ofNat (o + (i + 1)))), .val (.ref d), .val (.int (Int32.ofNat (q + (i + 1)))), .val (.int (Int32.ofNat len)), .val (.int (Int32.ofNat (i + 1))), .val (.int (cv A (o + i)))] [])) := by
        have := c9
        rw [succ32, succ32, succ32] at this
        exact this
      exact ih (i + 1) (by omega) _ (Or.inr ⟨_, rfl, rfl⟩) T7 _ (by rw [copyLocs_step, ← List.append_assoc]; exact X7) (pl.trans p7) (fl.step (by omega) hlt (by simp)) c10
  obtain ⟨T9, B9, z9, X9, p9, f9, g9⟩ := loop len 0 (by omega) .unset (Or.inl rfl) s₁ B (by simpa [copyLocs] using X0) ⟨hB0.1, fun _ _ => rfl, rfl⟩ (Laid.zero _ _ _) c2
  have c11 : Steps p.tables e below (s₁.setTop (entryFrame m #[.ref b, .int (Int32.ofNat o), .ref d, .int (Int32.ofNat q), .int (Int32.ofNat len)] 7)) (T9.setTop (mkF m 46 #[.val (.ref b), .val (.int (Int32.ofNat (o + len))), .val (.ref d), .val (.int (Int32.ofNat (q + len))), .val (.int (Int32.ofNat len)), .val (.int (Int32.ofNat len)), z9] [.int (Int32.ofNat len)])) := g9.trans (by
    refine XS.iload X9.here hexec rfl (hb hbytes d3) rfl ?_
    refine XS.iload X9.here hexec rfl (hb hbytes d5) rfl ?_
    refine XS.icmpYes X9.here hexec rfl (pc0 := 7) rfl (hb hbytes d7) rfl (ii_ge_t (nlt32 (by omega) (Nat.le_refl _))) (by decide) rfl ?_
    refine XS.iload X9.here hexec rfl (hb hbytes d44) rfl ?_
    exact Steps.refl _)
  exact ⟨T9, some (.int (Int32.ofNat len)), _, _, _, X9, by simp, rfl, rfl, (fun h => by cases h), ⟨rfl, B9, p9.from hh0, f9⟩, fun fs hl => c11.trans (X9.ireturnOut hexec hret rfl (Or.inl rfl) (hb hbytes d46) hl)⟩
end Cmp5
namespace Cmp3
def yN : MethodName := ⟨"java/lang/StringUTF16", "compress", "([CII)[B"⟩
abbrev yB : ByteArray := jdk_52_method_16_code
theorem d0 : decode yB 0 = .ok (.iload_n 2, 1) := by decide +kernel
theorem d1 : decode yB 1 = .ok (.newarray .byte, 2) := by decide +kernel
theorem d3 : decode yB 3 = .ok (.astore_n 3, 1) := by decide +kernel
theorem d4 : decode yB 4 = .ok (.aload_n 0, 1) := by decide +kernel
theorem d5 : decode yB 5 = .ok (.iload_n 1, 1) := by decide +kernel
theorem d6 : decode yB 6 = .ok (.aload_n 3, 1) := by decide +kernel
theorem d7 : decode yB 7 = .ok (.iconst 0, 1) := by decide +kernel
theorem d8 : decode yB 8 = .ok (.iload_n 2, 1) := by decide +kernel
theorem d9 : decode yB 9 = .ok (.invokestatic 115, 3) := by decide +kernel
theorem d12 : decode yB 12 = .ok (.istore 4, 2) := by decide +kernel
theorem d14 : decode yB 14 = .ok (.iload 4, 2) := by decide +kernel
theorem d16 : decode yB 16 = .ok (.iload_n 2, 1) := by decide +kernel
theorem d17 : decode yB 17 = .ok (.if_icmp (.eq) 40, 3) := by decide +kernel
theorem d57 : decode yB 57 = .ok (.aload_n 3, 1) := by decide +kernel
theorem d58 : decode yB 58 = .ok (.areturn, 1) := by decide +kernel
def site : List Cond := [.arrayClass .byte, Cmp5.tab] ++ staticW U16 115 Cmp5.yN
def tab : Cond := tabOf yN yB 6 (some (.array .byte)) site
def P (b : Addr) (A : Cell) (o len : Nat) (args : Array Value) (s : State) : Prop := args = #[.ref b, .int (Int32.ofNat o), .int (Int32.ofNat len)] ∧ Ch b A s ∧ o + len ≤ A.slots.size ∧ len ≤ 536870912 ∧ ∀ i, i < len → ¬ 255 < cv A (o + i)
def E (b : Addr) (A : Cell) (o len : Nat) (r : Option Value) (s u : State) : Prop := NewArr .byte "[B" len (fun j => .int (lo8 (cv A (o + j)))) r s u ∧ u.heap.size = s.heap.size + 1
/-- no char of the range above 255: a new byte[] of their low bytes -/
theorem law (l : Launch) (b : Addr) (A : Cell) (o len : Nat) : Law l yN 3 3 1 18 yB 6 (some (.array .byte)) site (P b A o len) (E b A o len) [] 1 len := by
  refine Law.of_walk (plainFor_of_name (by decide +kernel)) (by decide +kernel) (by decide +kernel) (by decide) (fun _ _ h => by rw [h.1]; rfl) (fun _ U U' hal hh h => ⟨h.1, h.2.1.mv hal hh, h.2.2⟩) (fun r U U' V V' h1 hal h2 h => ⟨NewArr.mv r U U' V V' h1 hal h2 h.1, by rw [h1, h2]; exact h.2⟩) ?_
  intro p e s m args below meth c s₁ X0 hexec hbytes hml hret hlk hnm hown hh0 W hP
  obtain ⟨rfl, hA, l1, l2, hp⟩ := hP
  have a31 := hA.1.2.2.2
  have c1 : Steps p.tables e below (s₁.setTop (entryFrame m #[.ref b, .int (Int32.ofNat o), .int (Int32.ofNat len)] 6)) (s₁.setTop (mkF m 0 #[.val (.ref b), .val (.int (Int32.ofNat o)), .val (.int (Int32.ofNat len)), .unset, .unset, .unset] [])) := entry rfl
  have c2 : Steps p.tables e below (s₁.setTop (entryFrame m #[.ref b, .int (Int32.ofNat o), .int (Int32.ofNat len)] 6)) (s₁.setTop (mkF m 1 #[.val (.ref b), .val (.int (Int32.ofNat o)), .val (.int (Int32.ofNat len)), .unset, .unset, .unset] [.int (Int32.ofNat len)])) := c1.trans (by
    refine XS.iloadN X0.here hexec rfl (hb hbytes d0) rfl ?_
    exact Steps.refl _)
  obtain ⟨T3, B3, X3, ba3, bs3, bv3, bh3, bf3, st3⟩ := X0.anew hexec (atype := .byte) (wk W (.arrayClass .byte)) rfl (by show len * 1 ≤ _; omega) (by omega) (g := (mkF m 1 #[.val (.ref b), .val (.int (Int32.ofNat o)), .val (.int (Int32.ofNat len)), .unset, .unset, .unset] [.int (Int32.ofNat len)])) rfl (hb hbytes d1) (rest := []) rfl (Nat.le_refl _) (by show 0 + len ≤ len; omega)
  rw [hh0] at ba3 st3
  have kp3 : XT.Kept s T3 := (XT.Kept.of_eq hh0).push bh3
  have hA3 := hA.keep X3.warmed.alike (kp3 _ _ hA.1.1)
  have hne : b ≠ s.heap.size := hA.1.ne
  have c4 : Steps p.tables e below (s₁.setTop (entryFrame m #[.ref b, .int (Int32.ofNat o), .int (Int32.ofNat len)] 6)) (T3.setTop (mkF m 3 #[.val (.ref b), .val (.int (Int32.ofNat o)), .val (.int (Int32.ofNat len)), .unset, .unset, .unset] [.ref s.heap.size])) := c2.trans (st3 _ (Steps.refl _))
  have c5 : Steps p.tables e below (s₁.setTop (entryFrame m #[.ref b, .int (Int32.ofNat o), .int (Int32.ofNat len)] 6)) (T3.setTop (mkF m 9 #[.val (.ref b), .val (.int (Int32.ofNat o)), .val (.int (Int32.ofNat len)), .val (.ref s.heap.size), .unset, .unset] [.int (Int32.ofNat len), .int 0, .ref s.heap.size, .int (Int32.ofNat o), .ref b])) := c4.trans (by
    refine XS.astoreN X3.here hexec rfl (hb hbytes d3) rfl rfl rfl ?_
    refine XS.aloadN X3.here hexec rfl (hb hbytes d4) rfl rfl ?_
    refine XS.iloadN X3.here hexec rfl (hb hbytes d5) rfl ?_
    refine XS.aloadN X3.here hexec rfl (hb hbytes d6) rfl rfl ?_
    refine iconstV X3.here hexec rfl 0 (hb hbytes d7) (by decide) ?_
    refine XS.iloadN X3.here hexec rfl (hb hbytes d8) rfl ?_
    exact Steps.refl _)
  obtain ⟨v6, T6, X6, E6, g6⟩ := X3.callS hexec (Cmp5.law l b A s.heap.size B3 o 0 len) hown (wks W (staticW U16 115 Cmp5.yN)) (wk W Cmp5.tab) (W := 0) (Nat.le_of_ble_eq_true rfl) (Nat.le_of_ble_eq_true rfl) (Nat.le_refl _) (by show 0 + len + 0 ≤ len; omega) (g := (mkF m 9 #[.val (.ref b), .val (.int (Int32.ofNat o)), .val (.int (Int32.ofNat len)), .val (.ref s.heap.size), .unset, .unset] [.int (Int32.ofNat len), .int (Int32.ofNat 0), .ref s.heap.size, .int (Int32.ofNat o), .ref b])) rfl (by rw [hml]; rfl) c5 (argsL := [.ref b, .int (Int32.ofNat o), .ref s.heap.size, .int (Int32.ofNat 0), .int (Int32.ofNat len)]) (rest := []) rfl rfl (by show 2 * 0 + 0 ≤ _; decide) (hb hbytes d9) (⟨rfl, hA3, ba3, hne, l1, by rw [bs3]; simp, hp⟩)
  obtain ⟨rfl, B6, p6, f6⟩ := E6
  have c7 : Steps p.tables e below (s₁.setTop (entryFrame m #[.ref b, .int (Int32.ofNat o), .int (Int32.ofNat len)] 6)) (T6.setTop (mkF m 12 #[.val (.ref b), .val (.int (Int32.ofNat o)), .val (.int (Int32.ofNat len)), .val (.ref s.heap.size), .unset, .unset] [.int (Int32.ofNat len)])) := g6
  have c8 : Steps p.tables e below (s₁.setTop (entryFrame m #[.ref b, .int (Int32.ofNat o), .int (Int32.ofNat len)] 6)) (T6.setTop (mkF m 58 #[.val (.ref b), .val (.int (Int32.ofNat o)), .val (.int (Int32.ofNat len)), .val (.ref s.heap.size), .val (.int (Int32.ofNat len)), .unset] [.ref s.heap.size])) := c7.trans (by
    refine XS.istore X6.here hexec rfl (hb hbytes d12) rfl rfl ?_
    refine XS.iload X6.here hexec rfl (hb hbytes d14) rfl ?_
    refine XS.iloadN X6.here hexec rfl (hb hbytes d16) rfl ?_
    refine XS.icmpYes X6.here hexec rfl (pc0 := 17) rfl (hb hbytes d17) rfl (ii_eq_t rfl) (by decide) rfl ?_
    refine XS.aloadN X6.here hexec rfl (hb hbytes d57) rfl rfl ?_
    exact Steps.refl _)
  have X8 := X6.wide (L' := []) (cells' := 1) (slots' := len) (fun x hx hlt => by
    simp only [List.nil_append, copyLocs, List.mem_map, List.mem_range] at hx
    obtain ⟨i, -, rfl⟩ := hx
    exact absurd hlt (Nat.lt_irrefl _)) (Nat.le_refl _) (by omega)
  exact ⟨T6, some (.ref s.heap.size), _, _, _, X8, rfl, rfl, rfl, (fun h => by cases h), ⟨⟨rfl, B6, ba3.like (X3.warmed.alike.symm.trans X6.warmed.alike) p6.1 f6.1 f6.2.1 f6.2.2.1, f6.2.1.trans bv3, by rw [X6.warmed.alike.findClass, f6.1]; exact bf3, by rw [f6.2.2.1, bs3]; simp, fun j hj => by rw [f6.2.2.2 j, if_pos (by omega)]; rfl, kp3.put p6 (Nat.le_refl _)⟩, by rw [p6.2.2, bh3, hh0]; simp⟩, fun fs hl => c8.trans (X8.areturnOut hexec rfl hret rfl (hb hbytes d58) hl)⟩
end Cmp3
namespace CodL
def yN : MethodName := ⟨"java/lang/StringUTF16", "coderFromArrayLen", "([BI)B"⟩
abbrev yB : ByteArray := jdk_52_method_15_code
theorem d0 : decode yB 0 = .ok (.iload_n 1, 1) := by decide +kernel
theorem d1 : decode yB 1 = .ok (.aload_n 0, 1) := by decide +kernel
theorem d2 : decode yB 2 = .ok (.arraylength, 1) := by decide +kernel
theorem d3 : decode yB 3 = .ok (.isub, 1) := by decide +kernel
theorem d4 : decode yB 4 = .ok (.bipush 31, 2) := by decide +kernel
theorem d6 : decode yB 6 = .ok (.iushr, 1) := by decide +kernel
theorem d7 : decode yB 7 = .ok (.i2b, 1) := by decide +kernel
theorem d8 : decode yB 8 = .ok (.ireturn, 1) := by decide +kernel
def site : List Cond := []
def tab : Cond := tabOf yN yB 2 (some .byte) site
def P (d : Addr) (B : Cell) (args : Array Value) (s : State) : Prop := args = #[.ref d, .int (Int32.ofNat B.slots.size)] ∧ Arr .byte d B s
def E (r : Option Value) (s u : State) : Prop := XT.PureE (some (.int 0)) r s u
/-- an array as long as the number of chars: LATIN1 -/
theorem law (l : Launch) (d : Addr) (B : Cell) : Law l yN 2 2 0 0 yB 2 (some .byte) site (P d B) E [] 0 0 := by
  refine Law.of_walk (plainFor_of_name (by decide +kernel)) (by decide +kernel) (by decide +kernel) (by decide) (fun _ _ h => by rw [h.1]; rfl) (fun _ U U' hal hh h => ⟨h.1, h.2.mv hal hh⟩) (fun r U U' V V' h1 hal h2 h => XT.PureE.mv r U U' V V' h1 hal h2 h) ?_
  intro p e s m args below meth c s₁ X0 hexec hbytes hml hret hlk hnm hown hh0 W hP
  obtain ⟨rfl, hB⟩ := hP
  have hB0 := hB.mv X0.warmed.alike hh0
  have c1 : Steps p.tables e below (s₁.setTop (entryFrame m #[.ref d, .int (Int32.ofNat B.slots.size)] 2)) (s₁.setTop (mkF m 0 #[.val (.ref d), .val (.int (Int32.ofNat B.slots.size))] [])) := entry rfl
  have c2 : Steps p.tables e below (s₁.setTop (entryFrame m #[.ref d, .int (Int32.ofNat B.slots.size)] 2)) (s₁.setTop (mkF m 2 #[.val (.ref d), .val (.int (Int32.ofNat B.slots.size))] [.ref d, .int (Int32.ofNat B.slots.size)])) := c1.trans (by
    refine XS.iloadN X0.here hexec rfl (hb hbytes d0) rfl ?_
    refine XS.aloadN X0.here hexec rfl (hb hbytes d1) rfl rfl ?_
    exact Steps.refl _)
  have c3 : Steps p.tables e below (s₁.setTop (entryFrame m #[.ref d, .int (Int32.ofNat B.slots.size)] 2)) (s₁.setTop (mkF m 8 #[.val (.ref d), .val (.int (Int32.ofNat B.slots.size))] [.int (lo8 (ushr (Int32.ofNat B.slots.size - Int32.ofNat B.slots.size) 31))])) := c2.trans (by
    refine X0.alen hexec hB0 rfl rfl (hb hbytes d2) ?_
    refine XS.isub X0.here hexec rfl (hb hbytes d3) rfl ?_
    refine bipushV X0.here hexec rfl 31 (hb hbytes d4) (by decide) ?_
    refine iushr X0.here hexec rfl (hb hbytes d6) rfl ?_
    refine i2b X0.here hexec rfl (hb hbytes d7) rfl ?_
    exact Steps.refl _)
  have e0 : lo8 (ushr (Int32.ofNat B.slots.size - Int32.ofNat B.slots.size) 31) = 0 := by rw [Int32.sub_self]; decide
  rw [e0] at c3
  exact ⟨s₁, some (.int 0), _, _, _, X0, rfl, rfl, rfl, (fun h => by cases h), ⟨rfl, hh0⟩, fun fs hl => c3.trans (X0.ireturnOut hexec hret rfl (Or.inr (Or.inr (Or.inl rfl))) (hb hbytes d8) hl)⟩
end CodL
/-- the String at a is Latin-1 over a new byte[] (the heap's one new cell): the low bytes of the len chars of A from o on; every cell but a is kept -/
def Got (a : Addr) (D : Cell) (fV fC : Field) (A : Cell) (o len : Nat) (r : Option Value) (s u : State) : Prop := r = none ∧ ∃ D' V : Cell, Blank "java/lang/String" a D' u ∧ Same D D' [fV.slot, fC.slot] ∧ D'.slots[fV.slot]? = some (.ref s.heap.size) ∧ D'.slots[fC.slot]? = some (.int 0) ∧ Arr .byte s.heap.size V u ∧ V.vm = .none ∧ u.vm.findClass "[B" = some V.cls ∧ V.slots.size = len ∧ (∀ j, j < len → V.slots[j]? = some (.int (lo8 (cv A (o + j))))) ∧ (∀ (y : Addr) (c : Cell), y ≠ a → s.heap[y]? = some c → u.heap[y]? = some c) ∧ u.heap.size = s.heap.size + 1
theorem Got.mv {a : Addr} {D A : Cell} {fV fC : Field} {o len : Nat} : ∀ r (U U' V V' : State), U'.heap = U.heap → V.vm.Alike V'.vm → V'.heap = V.heap → Got a D fV fC A o len r U V → Got a D fV fC A o len r U' V' :=
  fun r U U' V V' h1 hal h2 ⟨e0, D', X, a1, a2, a3, a4, a5, a6, a7, a8, a9, a10, a11⟩ => ⟨e0, D', X, a1.mv hal h2, a2, by rw [h1]; exact a3, a4, by rw [h1]; exact a5.mv hal h2, a6, by rw [hal.findClass]; exact a7, a8, a9, by rw [h1, h2]; exact a10, by rw [h1, h2]; exact a11⟩
namespace New4
def yN : MethodName := ⟨"java/lang/String", "<init>", "([CIILjava/lang/Void;)V"⟩
abbrev yB : ByteArray := jdk_42_method_149_code
theorem d0 : decode yB 0 = .ok (.aload_n 0, 1) := by decide +kernel
theorem d1 : decode yB 1 = .ok (.invokespecial 1, 3) := by decide +kernel
theorem d4 : decode yB 4 = .ok (.iload_n 3, 1) := by decide +kernel
theorem d5 : decode yB 5 = .ok (.ifCond (.ne) 22, 3) := by decide +kernel
theorem d27 : decode yB 27 = .ok (.getstatic 38, 3) := by decide +kernel
theorem d30 : decode yB 30 = .ok (.ifCond (.eq) 28, 3) := by decide +kernel
theorem d33 : decode yB 33 = .ok (.aload_n 1, 1) := by decide +kernel
theorem d34 : decode yB 34 = .ok (.iload_n 2, 1) := by decide +kernel
theorem d35 : decode yB 35 = .ok (.iload_n 3, 1) := by decide +kernel
theorem d36 : decode yB 36 = .ok (.invokestatic 177, 3) := by decide +kernel
theorem d39 : decode yB 39 = .ok (.astore 5, 2) := by decide +kernel
theorem d41 : decode yB 41 = .ok (.aload_n 0, 1) := by decide +kernel
theorem d42 : decode yB 42 = .ok (.aload 5, 2) := by decide +kernel
theorem d44 : decode yB 44 = .ok (.iload_n 3, 1) := by decide +kernel
theorem d45 : decode yB 45 = .ok (.invokestatic 47, 3) := by decide +kernel
theorem d48 : decode yB 48 = .ok (.putfield 15, 3) := by decide +kernel
theorem d51 : decode yB 51 = .ok (.aload_n 0, 1) := by decide +kernel
theorem d52 : decode yB 52 = .ok (.aload 5, 2) := by decide +kernel
theorem d54 : decode yB 54 = .ok (.putfield 9, 3) := by decide +kernel
theorem d57 : decode yB 57 = .ok (.return_, 1) := by decide +kernel
def site : List Cond := [.fieldLink "java/lang/String" 38 "java/lang/String" "COMPACT_STRINGS" "Z", Cmp3.tab, CodL.tab, .laysFinal "java/lang/String" "java/lang/String" "value" "[B", .fieldLink "java/lang/String" 9 "java/lang/String" "value" "[B", .laysFinal "java/lang/String" "java/lang/String" "coder" "B", .fieldLink "java/lang/String" 15 "java/lang/String" "coder" "B"] ++ objW "java/lang/String" 1 ++ staticW "java/lang/String" 177 Cmp3.yN ++ staticW "java/lang/String" 47 CodL.yN
def tab : Cond := tabOf yN yB 6 none site
def P (a : Addr) (D : Cell) (fV fC : Field) (b : Addr) (A : Cell) (z : Int32) (o len : Nat) (args : Array Value) (s : State) : Prop := args = #[.ref a, .ref b, .int (Int32.ofNat o), .int (Int32.ofNat len), .null] ∧ Blank "java/lang/String" a D s ∧ Found "java/lang/String" "value" "[B" fV s ∧ Found "java/lang/String" "coder" "B" fC s ∧ Ch b A s ∧ StaticIs s "java/lang/String" "COMPACT_STRINGS" "Z" (.int z) ∧ ¬ z = 0 ∧ 0 < len ∧ o + len ≤ A.slots.size ∧ len ≤ 536870912 ∧ ∀ i, i < len → ¬ 255 < cv A (o + i)
def E (a : Addr) (D : Cell) (fV fC : Field) (A : Cell) (o len : Nat) (r : Option Value) (s u : State) : Prop := Got a D fV fC A o len r s u
/-- len > 0, no char of the range above 255: a Latin-1 String of their low bytes -/
theorem law (l : Launch) (a : Addr) (D : Cell) (fV fC : Field) (b : Addr) (A : Cell) (z : Int32) (o len : Nat) : Law l yN 5 4 2 35 yB 6 none site (P a D fV fC b A z o len) (E a D fV fC A o len) [⟨a, fC.slot⟩, ⟨a, fV.slot⟩] 1 len := by
  refine Law.of_walk (plainFor_of_name (by decide +kernel)) (by decide +kernel) (by decide +kernel) (by decide) (fun _ _ h => by rw [h.1]; rfl) (fun _ U U' hal hh h => ⟨h.1, h.2.1.mv hal hh, h.2.2.1.al hal, h.2.2.2.1.al hal, h.2.2.2.2.1.mv hal hh, h.2.2.2.2.2.1.there hal hh, h.2.2.2.2.2.2⟩) (fun r U U' V V' h1 hal h2 h => Got.mv r U U' V V' h1 hal h2 h) ?_
  intro p e s m args below meth c s₁ X0 hexec hbytes hml hret hlk hnm hown hh0 W hP
  obtain ⟨rfl, hB, f1, f2, hA, s1, hz, l0, l1, l2, hp⟩ := hP
  have a31 := hA.1.2.2.2
  have c1 : Steps p.tables e below (s₁.setTop (entryFrame m #[.ref a, .ref b, .int (Int32.ofNat o), .int (Int32.ofNat len), .null] 6)) (s₁.setTop (mkF m 0 #[.val (.ref a), .val (.ref b), .val (.int (Int32.ofNat o)), .val (.int (Int32.ofNat len)), .val .null, .unset] [])) := entry rfl
  have c2 : Steps p.tables e below (s₁.setTop (entryFrame m #[.ref a, .ref b, .int (Int32.ofNat o), .int (Int32.ofNat len), .null] 6)) (s₁.setTop (mkF m 1 #[.val (.ref a), .val (.ref b), .val (.int (Int32.ofNat o)), .val (.int (Int32.ofNat len)), .val .null, .unset] [.ref a])) := c1.trans (by
    refine XS.aloadN X0.here hexec rfl (hb hbytes d0) rfl rfl ?_
    exact Steps.refl _)
  obtain ⟨T3, X3, q3, st3⟩ := X0.oinit hexec hown (wks W (objW "java/lang/String" 1)) (g := (mkF m 1 #[.val (.ref a), .val (.ref b), .val (.int (Int32.ofNat o)), .val (.int (Int32.ofNat len)), .val .null, .unset] [.ref a])) rfl (by rw [hml]; rfl) (rest := []) rfl (hb hbytes d1) (W := 0) (by show 2 * 0 + 0 ≤ _; decide) (Nat.le_of_ble_eq_true rfl) (Nat.le_of_ble_eq_true rfl)
  have hh3 := q3.trans hh0
  have c4 : Steps p.tables e below (s₁.setTop (entryFrame m #[.ref a, .ref b, .int (Int32.ofNat o), .int (Int32.ofNat len), .null] 6)) (T3.setTop (mkF m 27 #[.val (.ref a), .val (.ref b), .val (.int (Int32.ofNat o)), .val (.int (Int32.ofNat len)), .val .null, .unset] [])) := (c2.trans (st3 _ (Steps.refl _))).trans (by
    refine XS.iloadN X3.here hexec rfl (hb hbytes d4) rfl ?_
    refine XS.ifYes X3.here hexec rfl (pc0 := 5) rfl (hb hbytes d5) rfl (i0_ne_t (nz32 (by omega) l0)) (by decide) rfl ?_
    exact Steps.refl _)
  obtain ⟨T5, X5, q5, st5⟩ := X3.sget hexec hown (wk W (.fieldLink "java/lang/String" 38 "java/lang/String" "COMPACT_STRINGS" "Z")) s1 (fun _ _ h => by rw [hh3]; exact h) (g := (mkF m 27 #[.val (.ref a), .val (.ref b), .val (.int (Int32.ofNat o)), .val (.int (Int32.ofNat len)), .val .null, .unset] [])) rfl (hb hbytes d27)
  have hh5 := q5.trans hh3
  have c6 : Steps p.tables e below (s₁.setTop (entryFrame m #[.ref a, .ref b, .int (Int32.ofNat o), .int (Int32.ofNat len), .null] 6)) (T5.setTop (mkF m 30 #[.val (.ref a), .val (.ref b), .val (.int (Int32.ofNat o)), .val (.int (Int32.ofNat len)), .val .null, .unset] [.int z])) := c4.trans (st5 _ (Steps.refl _))
  have c7 : Steps p.tables e below (s₁.setTop (entryFrame m #[.ref a, .ref b, .int (Int32.ofNat o), .int (Int32.ofNat len), .null] 6)) (T5.setTop (mkF m 36 #[.val (.ref a), .val (.ref b), .val (.int (Int32.ofNat o)), .val (.int (Int32.ofNat len)), .val .null, .unset] [.int (Int32.ofNat len), .int (Int32.ofNat o), .ref b])) := c6.trans (by
    refine XS.ifNo X5.here hexec rfl (hb hbytes d30) rfl (i0_eq_f hz) ?_
    refine XS.aloadN X5.here hexec rfl (hb hbytes d33) rfl rfl ?_
    refine XS.iloadN X5.here hexec rfl (hb hbytes d34) rfl ?_
    refine XS.iloadN X5.here hexec rfl (hb hbytes d35) rfl ?_
    exact Steps.refl _)
  obtain ⟨v8, T8, X8, E8, g8⟩ := X5.callS hexec (Cmp3.law l b A o len) hown (wks W (staticW "java/lang/String" 177 Cmp3.yN)) (wk W Cmp3.tab) (W := 0) (Nat.le_of_ble_eq_true rfl) (Nat.le_of_ble_eq_true rfl) (Nat.le_refl _) (by show 0 + len ≤ len; omega) (g := (mkF m 36 #[.val (.ref a), .val (.ref b), .val (.int (Int32.ofNat o)), .val (.int (Int32.ofNat len)), .val .null, .unset] [.int (Int32.ofNat len), .int (Int32.ofNat o), .ref b])) rfl (by rw [hml]; rfl) c7 (argsL := [.ref b, .int (Int32.ofNat o), .int (Int32.ofNat len)]) (rest := []) rfl rfl (by show 2 * 0 + 0 ≤ _; decide) (hb hbytes d36) (⟨rfl, hA.mv X5.warmed.alike hh5, l1, l2, hp⟩)
  obtain ⟨e8, z8⟩ := E8
  obtain ⟨rfl, N, n1, n2, n3, n4, n5, n6⟩ := NewArr.mv _ T5 s _ _ hh5.symm (Vm.Alike.refl _) rfl e8
  rw [hh5] at z8
  have hB1 := hB.keep X8.warmed.alike (n6 _ _ hB.1)
  have hne : s.heap.size ≠ a := (Nat.ne_of_lt (Array.getElem?_eq_some_iff.mp hB.1).1).symm
  have c9 : Steps p.tables e below (s₁.setTop (entryFrame m #[.ref a, .ref b, .int (Int32.ofNat o), .int (Int32.ofNat len), .null] 6)) (T8.setTop (mkF m 39 #[.val (.ref a), .val (.ref b), .val (.int (Int32.ofNat o)), .val (.int (Int32.ofNat len)), .val .null, .unset] [.ref s.heap.size])) := g8
  have c10 : Steps p.tables e below (s₁.setTop (entryFrame m #[.ref a, .ref b, .int (Int32.ofNat o), .int (Int32.ofNat len), .null] 6)) (T8.setTop (mkF m 45 #[.val (.ref a), .val (.ref b), .val (.int (Int32.ofNat o)), .val (.int (Int32.ofNat len)), .val .null, .val (.ref s.heap.size)] [.int (Int32.ofNat N.slots.size), .ref s.heap.size, .ref a])) := by
    have hc : Steps p.tables e below (s₁.setTop (entryFrame m #[.ref a, .ref b, .int (Int32.ofNat o), .int (Int32.ofNat len), .null] 6)) (T8.setTop (mkF m 45 #[.val (.ref a), .val (.ref b), .val (.int (Int32.ofNat o)), .val (.int (Int32.ofNat len)), .val .null, .val (.ref s.heap.size)] [.int (Int32.ofNat len), .ref s.heap.size, .ref a])) := c9.trans (by
      refine XS.astore X8.here hexec rfl (hb hbytes d39) rfl rfl rfl ?_
      refine XS.aloadN X8.here hexec rfl (hb hbytes d41) rfl rfl ?_
      refine XS.aload X8.here hexec rfl (hb hbytes d42) rfl rfl ?_
      refine XS.iloadN X8.here hexec rfl (hb hbytes d44) rfl ?_
      exact Steps.refl _)
    rw [n4]; exact hc
  obtain ⟨v11, T11, X11, E11, g11⟩ := X8.callS hexec (CodL.law l s.heap.size N) hown (wks W (staticW "java/lang/String" 47 CodL.yN)) (wk W CodL.tab) (W := 1) (Nat.le_of_ble_eq_true rfl) (Nat.le_of_ble_eq_true rfl) (Nat.le_refl _) (by show 0 + len + 0 ≤ len; omega) (g := (mkF m 45 #[.val (.ref a), .val (.ref b), .val (.int (Int32.ofNat o)), .val (.int (Int32.ofNat len)), .val .null, .val (.ref s.heap.size)] [.int (Int32.ofNat N.slots.size), .ref s.heap.size, .ref a])) rfl (by rw [hml]; rfl) c10 (argsL := [.ref s.heap.size, .int (Int32.ofNat N.slots.size)]) (rest := [.ref a]) rfl rfl (by show 2 * 0 + (1 + 0) ≤ _; decide) (hb hbytes d45) (⟨rfl, n1⟩)
  obtain ⟨rfl, q11⟩ := E11
  have hB11 := hB1.mv (X8.warmed.alike.symm.trans X11.warmed.alike) q11
  have c12 : Steps p.tables e below (s₁.setTop (entryFrame m #[.ref a, .ref b, .int (Int32.ofNat o), .int (Int32.ofNat len), .null] 6)) (T11.setTop (mkF m 48 #[.val (.ref a), .val (.ref b), .val (.int (Int32.ofNat o)), .val (.int (Int32.ofNat len)), .val .null, .val (.ref s.heap.size)] [.int 0, .ref a])) := g11
  obtain ⟨T13, X13, p13, bl13, sl13, st13⟩ := X11.finit hexec hown (wk W (.fieldLink "java/lang/String" 15 "java/lang/String" "coder" "B")) (Or.inr ⟨_, (wk W (.laysFinal "java/lang/String" "java/lang/String" "coder" "B"))⟩) (Or.inl ⟨rfl, hnm⟩) f2 (Or.inl rfl) hB11 (t := .byte) (by decide +kernel) rfl (g := (mkF m 48 #[.val (.ref a), .val (.ref b), .val (.int (Int32.ofNat o)), .val (.int (Int32.ofNat len)), .val .null, .val (.ref s.heap.size)] [.int 0, .ref a])) rfl (rest := []) rfl (hb hbytes d48)
  have c14 : Steps p.tables e below (s₁.setTop (entryFrame m #[.ref a, .ref b, .int (Int32.ofNat o), .int (Int32.ofNat len), .null] 6)) (T13.setTop (mkF m 54 #[.val (.ref a), .val (.ref b), .val (.int (Int32.ofNat o)), .val (.int (Int32.ofNat len)), .val .null, .val (.ref s.heap.size)] [.ref s.heap.size, .ref a])) := (c12.trans (st13 _ (Steps.refl _))).trans (by
    refine XS.aloadN X13.here hexec rfl (hb hbytes d51) rfl rfl ?_
    refine XS.aload X13.here hexec rfl (hb hbytes d52) rfl rfl ?_
    exact Steps.refl _)
  obtain ⟨T15, X15, p15, bl15, sl15, st15⟩ := X13.finit hexec hown (wk W (.fieldLink "java/lang/String" 9 "java/lang/String" "value" "[B")) (Or.inr ⟨_, (wk W (.laysFinal "java/lang/String" "java/lang/String" "value" "[B"))⟩) (Or.inl ⟨rfl, hnm⟩) f1 (Or.inl rfl) bl13 (t := (.array .byte)) (by decide +kernel) rfl (g := (mkF m 54 #[.val (.ref a), .val (.ref b), .val (.int (Int32.ofNat o)), .val (.int (Int32.ofNat len)), .val .null, .val (.ref s.heap.size)] [.ref s.heap.size, .ref a])) rfl (rest := []) rfl (hb hbytes d54)
  have c16 : Steps p.tables e below (s₁.setTop (entryFrame m #[.ref a, .ref b, .int (Int32.ofNat o), .int (Int32.ofNat len), .null] 6)) (T15.setTop (mkF m 57 #[.val (.ref a), .val (.ref b), .val (.int (Int32.ofNat o)), .val (.int (Int32.ofNat len)), .val .null, .val (.ref s.heap.size)] [])) := c14.trans (st15 _ (Steps.refl _))
  have ap := apart (Or.inr ⟨_, (wk W (.laysFinal "java/lang/String" "java/lang/String" "value" "[B"))⟩) (Or.inr ⟨_, (wk W (.laysFinal "java/lang/String" "java/lang/String" "coder" "B"))⟩) f1 f2 (t₁ := .array .byte) (t₂ := .byte) (by decide +kernel) (by decide +kernel) (by decide)
  have al := X8.warmed.alike.symm.trans X15.warmed.alike
  have n7 : T11.heap[s.heap.size]? = some N := by rw [q11]; exact n1.1
  exact ⟨T15, none, _, _, _, X15, by simp, rfl, by omega, (fun _ => rfl), ⟨rfl, _, N, bl15, ((Same.refl D _).set _ (by simp)).set _ (by simp), sl15, (Cell.slots_setSlot_ne _ ap).trans sl13, n1.keep al (p15.other hne (p13.other hne n7)), n2, by rw [al.findClass]; exact n3, n4, n5, fun y c h1 h2 => p15.other h1 (p13.other h1 (by rw [q11]; exact n6 y c h2)), by rw [p15.2.2, p13.2.2, q11]; exact z8⟩, fun fs hl => c16.trans (X15.returnOut hexec hret (hb hbytes d57) hl)⟩
end New4
namespace New1
def yN : MethodName := ⟨"java/lang/String", "<init>", "([C)V"⟩
abbrev yB : ByteArray := jdk_42_method_3_code
theorem d0 : decode yB 0 = .ok (.aload_n 0, 1) := by decide +kernel
theorem d1 : decode yB 1 = .ok (.aload_n 1, 1) := by decide +kernel
theorem d2 : decode yB 2 = .ok (.iconst 0, 1) := by decide +kernel
theorem d3 : decode yB 3 = .ok (.aload_n 1, 1) := by decide +kernel
theorem d4 : decode yB 4 = .ok (.arraylength, 1) := by decide +kernel
theorem d5 : decode yB 5 = .ok (.aconst_null, 1) := by decide +kernel
theorem d6 : decode yB 6 = .ok (.invokespecial 27, 3) := by decide +kernel
theorem d9 : decode yB 9 = .ok (.return_, 1) := by decide +kernel
def site : List Cond := [New4.tab] ++ initW "java/lang/String" 27 New4.yN
def tab : Cond := tabOf yN yB 2 none site
def P (a : Addr) (D : Cell) (fV fC : Field) (b : Addr) (A : Cell) (z : Int32) (args : Array Value) (s : State) : Prop := args = #[.ref a, .ref b] ∧ Blank "java/lang/String" a D s ∧ Found "java/lang/String" "value" "[B" fV s ∧ Found "java/lang/String" "coder" "B" fC s ∧ Ch b A s ∧ StaticIs s "java/lang/String" "COMPACT_STRINGS" "Z" (.int z) ∧ ¬ z = 0 ∧ 0 < A.slots.size ∧ A.slots.size ≤ 536870912 ∧ ∀ i, i < A.slots.size → ¬ 255 < cv A i
def E (a : Addr) (D : Cell) (fV fC : Field) (A : Cell) (r : Option Value) (s u : State) : Prop := Got a D fV fC A 0 A.slots.size r s u
/-- new String(chars), not empty, no char above 255: a Latin-1 String of their low bytes -/
theorem law (l : Launch) (a : Addr) (D : Cell) (fV fC : Field) (b : Addr) (A : Cell) (z : Int32) : Law l yN 2 1 3 52 yB 2 none site (P a D fV fC b A z) (E a D fV fC A) [⟨a, fC.slot⟩, ⟨a, fV.slot⟩] 1 A.slots.size := by
  refine Law.of_walk (plainFor_of_name (by decide +kernel)) (by decide +kernel) (by decide +kernel) (by decide) (fun _ _ h => by rw [h.1]; rfl) (fun _ U U' hal hh h => ⟨h.1, h.2.1.mv hal hh, h.2.2.1.al hal, h.2.2.2.1.al hal, h.2.2.2.2.1.mv hal hh, h.2.2.2.2.2.1.there hal hh, h.2.2.2.2.2.2⟩) (fun r U U' V V' h1 hal h2 h => Got.mv r U U' V V' h1 hal h2 h) ?_
  intro p e s m args below meth c s₁ X0 hexec hbytes hml hret hlk hnm hown hh0 W hP
  obtain ⟨rfl, hB, f1, f2, hA, s1, hz, l0, l2, hp⟩ := hP
  have c1 : Steps p.tables e below (s₁.setTop (entryFrame m #[.ref a, .ref b] 2)) (s₁.setTop (mkF m 0 #[.val (.ref a), .val (.ref b)] [])) := entry rfl
  have c2 : Steps p.tables e below (s₁.setTop (entryFrame m #[.ref a, .ref b] 2)) (s₁.setTop (mkF m 6 #[.val (.ref a), .val (.ref b)] [.null, .int (Int32.ofNat A.slots.size), .int 0, .ref b, .ref a])) := c1.trans (by
    refine XS.aloadN X0.here hexec rfl (hb hbytes d0) rfl rfl ?_
    refine XS.aloadN X0.here hexec rfl (hb hbytes d1) rfl rfl ?_
    refine iconstV X0.here hexec rfl 0 (hb hbytes d2) (by decide) ?_
    refine XS.aloadN X0.here hexec rfl (hb hbytes d3) rfl rfl ?_
    refine X0.alen hexec (hA.1.mv X0.warmed.alike hh0) rfl rfl (hb hbytes d4) ?_
    refine XS.aconstNull X0.here hexec rfl (hb hbytes d5) ?_
    exact Steps.refl _)
  obtain ⟨v3, T3, X3, E3, g3⟩ := X0.callN hexec (New4.law l a D fV fC b A z 0 A.slots.size) rfl hown (wks W (initW "java/lang/String" 27 New4.yN)) (W New4.tab (by simp only [site, List.mem_cons, List.mem_append, true_or, or_true])) (W := 0) (Nat.le_of_ble_eq_true rfl) (Nat.le_of_ble_eq_true rfl) (Nat.le_refl _) (by show 0 + A.slots.size ≤ A.slots.size; omega) (g := (mkF m 6 #[.val (.ref a), .val (.ref b)] [.null, .int (Int32.ofNat A.slots.size), .int (Int32.ofNat 0), .ref b, .ref a])) rfl (by rw [hml]; rfl) c2 (argsL := [.ref b, .int (Int32.ofNat 0), .int (Int32.ofNat A.slots.size), .null]) (rest := []) rfl rfl (by show 2 * 0 + 0 ≤ _; decide) (hb hbytes d6) (⟨rfl, hB.mv X0.warmed.alike hh0, f1.al X0.warmed.alike, f2.al X0.warmed.alike, hA.mv X0.warmed.alike hh0, s1.there X0.warmed.alike hh0, hz, l0, by omega, l2, fun i hi => by rw [Nat.zero_add]; exact hp i hi⟩)
  have e0 := Got.mv _ s₁ s _ _ hh0.symm (Vm.Alike.refl _) rfl E3
  obtain rfl := e0.1
  have c4 : Steps p.tables e below (s₁.setTop (entryFrame m #[.ref a, .ref b] 2)) (T3.setTop (mkF m 9 #[.val (.ref a), .val (.ref b)] [])) := g3
  exact ⟨T3, none, _, _, _, X3, by simp, rfl, by omega, (fun _ => rfl), e0, fun fs hl => c4.trans (X3.returnOut hexec hret (hb hbytes d9) hl)⟩
theorem pays {l : Launch} {R : Room} {p : Program} {e : Env} {below : List Frame} {s : State} {sargs : Array Value} {len W : Nat} (a : Addr) (D : Cell) (fV fC : Field) (b : Addr) (A : Cell) (z : Int32) (htab : tab.before sargs s = true) (hfr : 4 ≤ R.frames) (hlo : W + 65 ≤ R.locals) :
    Back l R p e below s sargs yN len W (fun A₁ a₁ => A₁.cells + 1 ≤ R.cells ∧ A₁.slots + A.slots.size ≤ R.slots ∧ P a D fV fC b A z a₁ A₁.U) (fun A₁ _ v₁ B₁ => E a D fV fC A v₁ A₁.U B₁.U ∧ B₁.locs = A₁.locs ++ [⟨a, fC.slot⟩, ⟨a, fV.slot⟩] ∧ B₁.cells = A₁.cells + 1 ∧ B₁.slots = A₁.slots + A.slots.size) :=
  (law l a D fV fC b A z).pays htab hfr (by omega)
end New1
/-- the byte, read back as charAt reads it, is the char -/
theorem lo8_mask {x : Int32} (h0 : ¬ x < 0) (h1 : ¬ 255 < x) : lo8 x &&& 255 = x := by
  have t : ∀ k : Fin 256, lo8 (Int32.ofNat k.val) &&& 255 = Int32.ofNat k.val := by decide +kernel
  rw [Int32.lt_iff_toInt_lt] at h0 h1
  have e0 : (0 : Int32).toInt = 0 := rfl
  have e1 : (255 : Int32).toInt = 255 := rfl
  obtain ⟨k, hk⟩ : ∃ k : Nat, x.toInt = k := ⟨x.toInt.toNat, by omega⟩
  have hx : x = Int32.ofNat k := Int32.toInt_inj.mp (by rw [hk, Int32.toInt_ofNat_small (by omega)])
  rw [hx]
  exact t ⟨k, by omega⟩
end StrChars
namespace StrChars.Road
open Jvm Sem ClassFile Op Lib Jvm.Stand Jvm.Free Jvm.Free.XT
open Jvm.Lib.Cold (StaticIs)
abbrev ST : String := "java/lang/String"
/-- every table word that New1's law asks, flat -/
abbrev words : List Jvm.Cond := [.code New1.yN New1.yB 2 none, .initialized ST, .methodLink ST 27 New4.yN, .instanceMethod New4.yN,
  .code New4.yN New4.yB 6 none, .fieldLink ST 38 ST "COMPACT_STRINGS" "Z", .laysFinal ST ST "value" "[B", .fieldLink ST 9 ST "value" "[B", .laysFinal ST ST "coder" "B", .fieldLink ST 15 ST "coder" "B",
  .methodLink ST 1 Lib.objectInit, .instanceMethod Lib.objectInit, .code Lib.objectInit ⟨#[0xb1]⟩ 1 none, .methodLink ST 177 Cmp3.yN, .static Cmp3.yN, .methodLink ST 47 CodL.yN, .static CodL.yN,
  .code Cmp3.yN Cmp3.yB 6 (some (.array .byte)), .initialized U16, .arrayClass .byte, .methodLink U16 115 Cmp5.yN, .static Cmp5.yN, .code Cmp5.yN Cmp5.yB 7 (some .int), .code CodL.yN CodL.yB 2 (some .byte)]
theorem tab_of {a : Array Value} {s : State} (h : ∀ w ∈ words, w.before a s = true) : New1.tab.before a s = true := by
  have h5 : Cmp5.tab.before a s = true := unparts (wk h (.code Cmp5.yN Cmp5.yB 7 (some .int))) (wks h (.initialized Cmp5.yN.cls :: Cmp5.site))
  have hc : CodL.tab.before a s = true := unparts (wk h (.code CodL.yN CodL.yB 2 (some .byte))) (wks h (.initialized CodL.yN.cls :: CodL.site))
  have q5 : ∀ w ∈ Cmp5.tab :: words, w.before a s = true := fun w hw => (List.mem_cons.mp hw).elim (fun e => e ▸ h5) (h w)
  have h3 : Cmp3.tab.before a s = true := unparts (wk q5 (.code Cmp3.yN Cmp3.yB 6 (some (.array .byte)))) (wks q5 (.initialized Cmp3.yN.cls :: Cmp3.site))
  have q3 : ∀ w ∈ Cmp3.tab :: CodL.tab :: words, w.before a s = true := fun w hw => (List.mem_cons.mp hw).elim (fun e => e ▸ h3) fun hw => (List.mem_cons.mp hw).elim (fun e => e ▸ hc) (h w)
  have h4 : New4.tab.before a s = true := unparts (wk q3 (.code New4.yN New4.yB 6 none)) (wks q3 (.initialized New4.yN.cls :: New4.site))
  have q4 : ∀ w ∈ New4.tab :: words, w.before a s = true := fun w hw => (List.mem_cons.mp hw).elim (fun e => e ▸ h4) (h w)
  exact unparts (wk q4 (.code New1.yN New1.yB 2 none)) (wks q4 (.initialized New1.yN.cls :: New1.site))
/-- the words ride from the start Z to the walk's own state -/
theorem moved {Z s : State} {a0 args : Array Value} (hZ : Z.Warmed39 s.vm) (hw : ∀ d ∈ words, d.before a0 Z = true) : ∀ d ∈ words, d.before args s = true := fun d hd => by
  have q := hw d hd
  have t : ∀ d ∈ words, d = .arrayClass .byte ∨ (d.onTables && d.keepsFace) = true := by decide +kernel
  rcases t d hd with rfl | t
  · exact RoadKit.mvA hZ q
  · exact RoadKit.mv hZ q t
/-- WHAT COMES BACK, over the tables of the start Z: h the heap at the call, h' behind it -/
def Q (Z : State) (x : Addr) (A : Cell) (h : Heap) (v : Option Value) (h' : Heap) (L : List Loc) : Prop := v = none ∧ (∀ y ∈ L, y.base = x) ∧ RoadKit.Keep h h' [x] ∧ h'.size = h.size + 1 ∧ RoadKit.Exa Z h' x ST ∧ RoadKit.Fld Z h' x ST "value" "[B" (.ref h.size) ∧ RoadKit.Fld Z h' x ST "coder" "B" (.int 0) ∧
  (∃ V : Cell, RoadKit.Arr Z h' h.size V .byte ∧ V.vm = .none ∧ Z.vm.findClass "[B" = some V.cls ∧ V.slots.size = A.slots.size ∧ ∀ j, j < A.slots.size → V.slots[j]? = some (.int (lo8 (cv A j)))) ∧
  ∀ (O n d : String) (w : Value), RoadKit.Fld Z h x O n d w → RoadKit.slotOf Z O n d ≠ RoadKit.slotOf Z ST "value" "[B" → RoadKit.slotOf Z O n d ≠ RoadKit.slotOf Z ST "coder" "B" → RoadKit.Fld Z h' x O n d w
/-- **new String(chars) AT A CALL, IN THE ROAD'S FORM**: for specialBack behind newO: x the fresh String, b the char[] with the cell A -/
theorem back {p : Program} {l : Launch} {e : Env} {R : Room} {s : State} {args : Array Value} {below : List Frame} {len W : Nat} {Z : State} {a0 : Array Value} {h : Heap} (hZ : Z.Warmed39 s.vm) (hw : ∀ d ∈ words, d.before a0 Z = true) {kI : Nat} (wi : (Jvm.Cond.instantiable ST kI).before a0 Z = true)
    {x b : Addr} {A : Cell} {z : Int32} {v0 c0 : Value} (E : RoadKit.Exa Z h x ST) (V : RoadKit.Fld Z h x ST "value" "[B" v0) (C : RoadKit.Fld Z h x ST "coder" "B" c0) (K : RoadKit.Arr Z h b A .char) (hty : Typed .char A) (S : RoadKit.Sta Z h ST "COMPACT_STRINGS" "Z" (.int z)) (hz : ¬ z = 0)
    (l0 : 0 < A.slots.size) (l2 : A.slots.size ≤ 536870912) (hp : ∀ i, i < A.slots.size → ¬ 255 < cv A i) (hfr : 4 ≤ R.frames) (hlo : W + 65 ≤ R.locals) :
    Back l R p e below s args New1.yN len W (fun P a => a = #[.ref x, .ref b] ∧ P.U.heap = h ∧ P.cells + 1 ≤ R.cells ∧ P.slots + A.slots.size ≤ R.slots)
      (fun P _ v B => ∃ L, Q Z x A h v B.U.heap L ∧ B.locs = P.locs ++ L ∧ B.cells = P.cells + 1 ∧ B.slots = P.slots + A.slots.size) := by
  intro m meth c P g ig mk a X hg hsize hdg hW hn hp'
  obtain ⟨rfl, rfl, r1, r2⟩ := hp'
  have al : Z.vm.Alike P.U.vm := hZ.alike.trans X.warmed.alike
  obtain ⟨D, cfV, kV, iV, fV, hD, gV, stV, knV, obV, asV, slV⟩ := id V
  obtain ⟨D', cfC, kC, iC, fC, hD', gC, stC, -, -, asC, slC⟩ := id C
  cases hD.symm.trans hD'
  obtain ⟨D2, kD, e1, e2, e3, e4, e5⟩ := id E
  cases hD.symm.trans e1
  obtain ⟨c2, k2, i1, i2, i3, -⟩ := Cond.instantiable_spec wi
  cases e2.symm.trans i1
  cases e3.symm.trans i2
  obtain ⟨kU, u1, u2⟩ := al.2.2 _ _ e3
  have hB : Blank ST x D P.U := ⟨hD, ⟨knV, fun q hq => by rw [hq] at obV; cases obV⟩, by rw [al.findClass]; exact e2, kU, u1, by rw [u2]; exact i3, by rw [u2]; exact e5 i3⟩
  have F1 : Found ST "value" "[B" fV P.U := ⟨SBG.found_only al ⟨cfV, kV, iV, gV⟩, stV⟩
  have F2 : Found ST "coder" "B" fC P.U := ⟨SBG.found_only al ⟨cfC, kC, iC, gC⟩, stC⟩
  have hA : Ch b A P.U := ⟨⟨K.1, State.isArrayOf_alike al K.2.1, K.2.2, by omega⟩, hty⟩
  have hS : StaticIs P.U ST "COMPACT_STRINGS" "Z" (.int z) := by
    obtain ⟨cfS, iS, kS, fS, st, cS, t1, t2, t3, t4, t5, t6, t7⟩ := S
    exact StaticIs.there (s := { Z with heap := P.U.heap }) ⟨cfS, iS, kS, fS, st, cS, t1, t2, t3, t4, t5, (fun q => by rw [q] at t6; cases t6), t7⟩ al rfl
  obtain ⟨v, B, X', ⟨⟨hv, E', V', q1, q2, q3, q4, q5, q6, q7, q8, q9, q10, q11⟩, hl, hc, hs⟩, st⟩ := New1.pays x D fV fC b A z (tab_of (moved hZ hw)) hfr hlo m meth c P g ig mk _ X hg hsize hdg hW hn ⟨r1, r2, rfl, hB, F1, F2, hA, hS, hz, l0, l2, hp⟩
  have al' : Z.vm.Alike B.U.vm := hZ.alike.trans X'.warmed.alike
  have hsz : E'.slots.size = D.slots.size := by
    obtain ⟨-, -, -, kB, w1, w2, w3⟩ := q1
    obtain ⟨kB', y1, y2⟩ := al'.2.2 _ _ e3
    rw [q2.2.1] at w1
    cases w1.symm.trans y1
    rw [w3, e5 i3, y2]
  refine ⟨v, B, X', ⟨_, ⟨hv, ?_, ⟨by omega, fun y cy hy hn' => q10 y cy (by simpa using hn') hy, fun y cy hy => ?_⟩, q11, ⟨E', _, q1.1, by rw [q2.2.1]; exact e2, by rw [q2.2.1]; exact e3, by rw [q2.1]; exact obV, fun _ => by rw [hsz]; exact e5 i3⟩,
    ⟨E', cfV, kV, iV, fV, q1.1, gV, stV, by rw [q2.1]; exact knV, by rw [q2.1]; exact obV, by rw [q2.2.1]; exact asV, q3⟩, ⟨E', cfC, kC, iC, fC, q1.1, gC, stC, by rw [q2.1]; exact knV, by rw [q2.1]; exact obV, by rw [q2.2.1]; exact asC, q4⟩,
    ⟨V', ⟨q5.1, State.isArrayOf_alike al'.symm q5.2.1, q5.2.2.1⟩, q6, by rw [← al'.findClass]; exact q7, q8, fun j hj => by have := q9 j hj; rwa [Nat.zero_add] at this⟩, fun O n d w F n1 n2 => ?_⟩, hl, hc, hs⟩, st⟩
  · intro y hy
    simp only [List.mem_cons, List.not_mem_nil, or_false] at hy
    rcases hy with rfl | rfl <;> rfl
  · by_cases q : y = x
    · subst q
      cases hD.symm.trans hy
      exact ⟨E', q1.1, q2.2.1, q2.1, hsz⟩
    · exact ⟨cy, q10 y cy q hy, rfl, rfl, rfl⟩
  · obtain ⟨D3, cf, k, i, f, g1, g2, g3, g4, g5, g6, g7⟩ := F
    cases hD.symm.trans g1
    simp only [RoadKit.slotOf, g2, gV, gC, Option.map_some, Option.getD_some] at n1 n2
    exact ⟨E', cf, k, i, f, q1.1, g2, g3, by rw [q2.1]; exact g4, by rw [q2.1]; exact g5, by rw [q2.2.1]; exact g6, by rw [q2.2.2 f.slot (by simp [n1, n2])]; exact g7⟩
end StrChars.Road
namespace StrChars.Road
open Jvm Sem ClassFile Op Lib Jvm.Stand Jvm.Free Jvm.Free.XT
/-- WHAT COMES BACK, the byte[] as a list of values -/
def QA (Z : State) (x : Addr) (zn : Int32) (cs : List Int32) (h : Heap) (v : Option Value) (h' : Heap) (L : List Loc) : Prop := v = none ∧ (∀ y ∈ L, y.base = x) ∧ RoadKit.Keep h h' [x] ∧ h'.size = h.size + 1 ∧ RoadKit.Exa Z h' x ST ∧ RoadKit.Fld Z h' x ST "value" "[B" (.ref h.size) ∧ RoadKit.Fld Z h' x ST "coder" "B" (.int 0) ∧
  (∃ kb, Z.vm.findClass "[B" = some kb ∧ RoadKit.Arv Z h' h.size kb .byte zn (cs.map fun c => .int (lo8 c)) (.int 0)) ∧
  ∀ (O n d : String) (w : Value), RoadKit.Fld Z h x O n d w → RoadKit.slotOf Z O n d ≠ RoadKit.slotOf Z ST "value" "[B" → RoadKit.slotOf Z O n d ≠ RoadKit.slotOf Z ST "coder" "B" → RoadKit.Fld Z h' x O n d w
/-- **new String(chars) AT A CALL, THE ARRAYS AS LISTS**: the char[] at b holds cs, not empty, no char above 255 -/
theorem backArv {p : Program} {l : Launch} {e : Env} {R : Room} {s : State} {args : Array Value} {below : List Frame} {len W : Nat} {Z : State} {a0 : Array Value} {h : Heap} (hZ : Z.Warmed39 s.vm) (hw : ∀ d ∈ words, d.before a0 Z = true) {kI : Nat} (wi : (Jvm.Cond.instantiable ST kI).before a0 Z = true)
    {x b : Addr} {k : ClassId} {zn z : Int32} {cs : List Int32} {dv v0 c0 : Value} (E : RoadKit.Exa Z h x ST) (V : RoadKit.Fld Z h x ST "value" "[B" v0) (C : RoadKit.Fld Z h x ST "coder" "B" c0) (K : RoadKit.Arv Z h b k .char zn (cs.map Value.int) dv) (S : RoadKit.Sta Z h ST "COMPACT_STRINGS" "Z" (.int z)) (hz : ¬ z = 0)
    (hlen : zn.toNatClampNeg = cs.length) (h0 : 0 < cs.length) (hbig : cs.length ≤ 536870912) (hall : ∀ c ∈ cs, ¬ 255 < c) (hfr : 4 ≤ R.frames) (hlo : W + 65 ≤ R.locals) :
    Back l R p e below s args New1.yN len W (fun P a => a = #[.ref x, .ref b] ∧ P.U.heap = h ∧ P.cells + 1 ≤ R.cells ∧ P.slots + cs.length ≤ R.slots)
      (fun P _ v B => ∃ L, QA Z x zn cs h v B.U.heap L ∧ B.locs = P.locs ++ L ∧ B.cells = P.cells + 1 ∧ B.slots = P.slots + cs.length) := by
  obtain ⟨A, K1, K2, K3, K4, K5, K6⟩ := K
  have e : A.slots.size = cs.length := K3.trans hlen
  have hat : ∀ (i : Nat) (hi : i < cs.length), A.slots[i]? = some (.int cs[i]) := fun i hi => by rw [K5 i (by omega)]; simp [List.getD_eq_getElem?_getD, hi]
  have hcv : ∀ (i : Nat) (hi : i < cs.length), cv A i = cs[i] := fun i hi => by unfold cv; rw [hat i hi]
  have hty : Typed .char A := fun i v hv => by
    have hi : i < A.slots.size := (Array.getElem?_eq_some_iff.mp hv).1
    have q := K5 i hi
    rw [hv] at q
    rw [Option.some.inj q]
    exact K6 i hi
  refine Back.mono (back hZ hw wi E V C K1 hty S hz (by omega) (by omega) (fun i hi => by rw [hcv i (by omega)]; exact hall _ (List.getElem_mem _)) hfr hlo) (fun P a hp => ⟨hp.1, hp.2.1, hp.2.2.1, by rw [e]; exact hp.2.2.2⟩) (fun P a v B hp hq => ?_)
  obtain ⟨L, ⟨q1, q2, q3, q4, q5, q6, q7, ⟨V', v1, v2, v3, v4, v5⟩, q9⟩, hl, hc, hs⟩ := hq
  refine ⟨L, ⟨q1, q2, q3, q4, q5, q6, q7, ⟨V'.cls, v3, V', v1, rfl, by rw [v4, e, hlen], K4, fun i hi => ?_, fun i hi => ?_⟩, q9⟩, hl, hc, by rw [hs, e]⟩
  · have hi' : i < cs.length := by omega
    rw [v5 i (by omega), hcv i hi']; simp [List.getD_eq_getElem?_getD, hi']
  · have hi' : i < cs.length := by omega
    simp only [List.getD_eq_getElem?_getD, List.getElem?_map, List.getElem?_eq_getElem hi', Option.map_some, Option.getD_some]
    exact fits_lo8 _
end StrChars.Road
namespace StrChars.Road
open Jvm Sem ClassFile Op Lib Jvm.Stand Jvm.Free Jvm.Free.XT
/-- WHAT COMES BACK, in the writer's own shape -/
def QV (Z : State) (x : Addr) (N : Int32) (bs : List Int32) (h : Heap) (n0 : Nat) (v : Option Value) (h' : Heap) (L : List Loc) : Prop := v = none ∧ RoadKit.Fr n0 L ∧ RoadKit.Keep h h' [x] ∧ RoadKit.Exa Z h' x ST ∧ RoadKit.Fld Z h' x ST "coder" "B" (.int 0) ∧
  ∃ (t : Addr) (kb : ClassId), n0 ≤ t ∧ h.size ≤ t ∧ ¬ t = x ∧ RoadKit.Fld Z h' x ST "value" "[B" (.ref t) ∧ RoadKit.Arv Z h' t kb .byte N (bs.map Value.int) (.int 0)
/-- **new String(chars) AT A CALL, FOR THE WRITER**: a char[] of n known ints, each 0 to 255 -/
theorem backV {p : Program} {l : Launch} {e : Env} {R : Room} {s : State} {args : Array Value} {below : List Frame} {len W : Nat} {Z : State} {a0 : Array Value} {h : Heap} (hZ : Z.Warmed39 s.vm) (hw : ∀ d ∈ words, d.before a0 Z = true) {kI : Nat} (wi : (Jvm.Cond.instantiable ST kI).before a0 Z = true)
    {x b : Addr} {kC : ClassId} {cs bs : List Int32} {d v0 c0 : Value} {z N : Int32} {n n0 : Nat} (hx0 : n0 ≤ x) (hh0 : n0 ≤ h.size) (E : RoadKit.Exa Z h x ST) (V : RoadKit.Fld Z h x ST "value" "[B" v0) (C : RoadKit.Fld Z h x ST "coder" "B" c0) (K : RoadKit.Arv Z h b kC .char N (cs.map Value.int) d) (S : RoadKit.Sta Z h ST "COMPACT_STRINGS" "Z" (.int z)) (hz : ¬ z = 0)
    (hn : cs.length = n) (hN : N = Int32.ofNat n) (l0 : 0 < n) (l2 : n ≤ 4000) (hp : ∀ c ∈ cs, ¬ c < 0 ∧ ¬ (255 : Int32) < c) (hb : bs = cs.map (fun c => c.toInt8.toInt32)) (hfr : 4 ≤ R.frames) (hlo : W + 65 ≤ R.locals) :
    Back l R p e below s args (⟨"java/lang/String", "<init>", "([C)V"⟩ : MethodName) len W (fun P a => a = #[.ref x, .ref b] ∧ P.U.heap = h ∧ P.cells + 1 ≤ R.cells ∧ P.slots + n ≤ R.slots)
      (fun P _ v B => ∃ L, QV Z x N bs h n0 v B.U.heap L ∧ B.locs = P.locs ++ L ∧ B.cells = P.cells + 1 ∧ B.slots = P.slots + n) := by
  subst hn hN hb
  refine Back.mono (backArv hZ hw wi E V C K S hz (n32 (by omega)) l0 (by omega) (fun c hc => (hp c hc).2) hfr hlo) (fun P a hp => hp) (fun P a v B hp hq => ?_)
  obtain ⟨L, ⟨q1, q2, q3, q4, q5, q6, q7, ⟨kb, v1, v2⟩, q9⟩, hl, hc, hs⟩ := hq
  exact ⟨L, ⟨q1, fun y hy => by rw [q2 y hy]; exact hx0, q3, q5, q7, h.size, kb, hh0, Nat.le_refl _, Nat.ne_of_gt E.lt, q6, by rw [List.map_map]; exact v2⟩, hl, hc, hs⟩
end StrChars.Road
namespace StrChars
open Jvm Sem ClassFile Op Lib Jvm.Stand Jvm.Free.XT Jvm.Free.ALB Jvm.Free.JM Jvm.Free
open Jvm.Lib.Cold (StaticIs)
def hi8 (x : Int32) : Int32 := lo8 (x >>> ((8 : Int32) &&& 31))
/-- what StringUTF16.getChar makes of two bytes -/
def pairCh (u v : Int32) : Int32 := (((u &&& 255) <<< ((0 : Int32) &&& 31)) ||| ((v &&& 255) <<< ((8 : Int32) &&& 31))).toUInt32.toUInt16.toUInt32.toInt32
theorem shr0 (c : Int32) : c >>> ((0 : Int32) &&& 31) = c := by
  have e : ((0 : Int32) &&& 31) = 0 := by decide
  rw [e]
  apply Int32.toBitVec_inj.mp
  rw [Int32.toBitVec_shiftRight]
  have e1 : ((0 : Int32).toBitVec.smod 32) = 0#32 := by decide
  rw [e1, BitVec.sshiftRight_eq']
  exact BitVec.sshiftRight_zero
theorem lo8_and (x : Int32) : (lo8 x &&& 255).toBitVec.toNat = x.toBitVec.toNat % 256 := by
  have h : (lo8 x).toBitVec = (x.toBitVec.signExtend 8).signExtend 32 := by rw [lo8, Int8.toBitVec_toInt32, Int32.toBitVec_toInt8]
  rw [Int32.toBitVec_and, BitVec.toNat_and, h]
  have e : ((x.toBitVec.signExtend 8).signExtend 32).toNat % 256 = x.toBitVec.toNat % 256 := by
    rw [BitVec.toNat_signExtend]
    have hlt := x.toBitVec.isLt
    simp only [BitVec.toNat_setWidth, BitVec.toNat_signExtend]
    split <;> split <;> omega
  rw [← e]
  exact Nat.and_two_pow_sub_one_eq_mod _ 8
theorem pair_says {c : Int32} (h0 : ¬ c < 0) (h1 : ¬ 65535 < c) : pairCh (lo8 c) (hi8 c) = c := by
  rw [Int32.lt_iff_toInt_lt] at h0 h1
  have e0 : (0 : Int32).toInt = 0 := rfl
  have e1 : (65535 : Int32).toInt = 65535 := rfl
  have hc : c.toInt = c.toBitVec.toNat := by
    have := c.toBitVec.isLt
    have e : c.toInt = c.toBitVec.toInt := rfl
    rw [e] at h0 h1
    rw [e]
    rw [BitVec.toInt_eq_toNat_cond] at h0 h1 ⊢
    split at h0 <;> split <;> omega
  have hn : c.toBitVec.toNat < 65536 := by omega
  have a1 := lo8_and c
  have a2 : (hi8 c &&& 255).toBitVec.toNat = c.toBitVec.toNat / 256 := by
    rw [hi8, lo8_and]
    have e : ((8 : Int32) &&& 31) = 8 := by decide
    rw [e, Int32.toBitVec_shiftRight]
    have e2 : ((8 : Int32).toBitVec.smod 32) = 8#32 := by decide
    rw [e2, BitVec.sshiftRight_eq', BitVec.toNat_sshiftRight_of_msb_false (by rw [BitVec.msb_eq_false_iff_two_mul_lt]; omega)]
    show c.toBitVec.toNat >>> 8 % 256 = _
    rw [Nat.shiftRight_eq_div_pow]
    omega
  unfold pairCh
  apply Int32.toBitVec_inj.mp
  apply BitVec.eq_of_toNat_eq
  have f0 : ((0 : Int32) &&& 31) = 0 := by decide
  have f8 : ((8 : Int32) &&& 31) = 8 := by decide
  rw [f0, f8]
  have g : (((lo8 c &&& 255) <<< (0 : Int32)) ||| ((hi8 c &&& 255) <<< (8 : Int32))).toBitVec.toNat = c.toBitVec.toNat := by
    rw [Int32.toBitVec_or, Int32.toBitVec_shiftLeft, Int32.toBitVec_shiftLeft]
    have s0 : ((0 : Int32).toBitVec.smod 32) = 0#32 := by decide
    have s8 : ((8 : Int32).toBitVec.smod 32) = 8#32 := by decide
    rw [s0, s8, BitVec.toNat_or]
    simp only [BitVec.shiftLeft_eq', BitVec.toNat_shiftLeft, a1, a2]
    show (c.toBitVec.toNat % 256) <<< 0 % 2 ^ 32 ||| (c.toBitVec.toNat / 256) <<< 8 % 2 ^ 32 = _
    rw [Nat.shiftLeft_zero, Nat.mod_eq_of_lt (show c.toBitVec.toNat % 256 < 2 ^ 32 by omega), Nat.mod_eq_of_lt (show (c.toBitVec.toNat / 256) <<< 8 < 2 ^ 32 by rw [Nat.shiftLeft_eq]; omega), Nat.or_comm, ← Nat.shiftLeft_add_eq_or_of_lt (by omega), Nat.shiftLeft_eq]
    omega
  show BitVec.toNat (((((lo8 c &&& 255) <<< (0 : Int32)) ||| ((hi8 c &&& 255) <<< (8 : Int32))).toBitVec.setWidth 16).setWidth 32) = _
  rw [BitVec.toNat_setWidth, BitVec.toNat_setWidth, g]
  omega
end StrChars
namespace StrChars
open Jvm Sem ClassFile Op Lib Jvm.Stand Jvm.Free.XT Jvm.Free.ALB Jvm.Free.JM Jvm.Free
open Jvm.Lib.Cold (StaticIs)
theorem shr1 {n : Nat} (h : 2 * n < 2 ^ 31) : Int32.ofNat (2 * n) >>> ((1 : Int32) &&& 31) = Int32.ofNat n := by
  have e : ((1 : Int32) &&& 31) = 1 := by decide
  rw [e]
  apply Int32.toBitVec_inj.mp
  rw [Int32.toBitVec_shiftRight]
  have e1 : ((1 : Int32).toBitVec.smod 32) = 1#32 := by decide
  have hm : (BitVec.ofNat 32 (2 * n)).toNat = 2 * n := by rw [BitVec.toNat_ofNat, Nat.mod_eq_of_lt (by omega)]
  rw [e1, BitVec.sshiftRight_eq']
  apply BitVec.eq_of_toNat_eq
  show ((BitVec.ofNat 32 (2 * n)).sshiftRight 1).toNat = (BitVec.ofNat 32 n).toNat
  rw [BitVec.toNat_sshiftRight_of_msb_false (by rw [BitVec.msb_eq_false_iff_two_mul_lt, hm]; omega), hm, BitVec.toNat_ofNat, Nat.shiftRight_eq_div_pow]
  omega
/-- charAt's cast of a byte read back -/
def chr8 (u : Int32) : Int32 := (u &&& 255).toUInt32.toUInt16.toUInt32.toInt32
theorem chr8_lo8 {c : Int32} (h0 : ¬ c < 0) (h1 : ¬ 255 < c) : chr8 (lo8 c) = c := by
  have t : ∀ k : Fin 256, (Int32.ofNat k.val).toUInt32.toUInt16.toUInt32.toInt32 = Int32.ofNat k.val := by decide +kernel
  unfold chr8
  rw [lo8_mask h0 h1]
  rw [Int32.lt_iff_toInt_lt] at h0 h1
  have e0 : (0 : Int32).toInt = 0 := rfl
  have e1 : (255 : Int32).toInt = 255 := rfl
  obtain ⟨k, hk⟩ : ∃ k : Nat, c.toInt = k := ⟨c.toInt.toNat, by omega⟩
  have hx : c = Int32.ofNat k := Int32.toInt_inj.mp (by rw [hk, Int32.toInt_ofNat_small (by omega)])
  rw [hx]
  exact t ⟨k, by omega⟩
theorem narrow_ch {c : Int32} (h0 : ¬ c < 0) (h1 : ¬ 65535 < c) : narrow .char (.int c) = .int c := by
  have q : narrow .char (.int (pairCh (lo8 c) (hi8 c))) = .int (pairCh (lo8 c) (hi8 c)) := narrow_c _
  rwa [pair_says h0 h1] at q
/-- the array's cell V codes the n chars f 0 .. f (n - 1) by the coder cd, as the JDK does: coder 1 just where some char is above 255 -/
def Cod (cd : Int32) (n : Nat) (f : Nat → Int32) (V : Cell) : Prop := (cd = 0 ∧ V.slots.size = n ∧ ∀ j, j < n → V.slots[j]? = some (.int (lo8 (f j))) ∧ ¬ 255 < f j) ∨ (cd = 1 ∧ V.slots.size = 2 * n ∧ (∀ j, j < n → V.slots[2 * j]? = some (.int (lo8 (f j))) ∧ V.slots[2 * j + 1]? = some (.int (hi8 (f j)))) ∧ ∃ j, j < n ∧ 255 < f j)
theorem Cod.cd {cd : Int32} {n : Nat} {f : Nat → Int32} {V : Cell} (h : Cod cd n f V) : cd = 0 ∨ cd = 1 := h.imp (fun q => q.1) fun q => q.1
theorem Cod.len {cd : Int32} {n : Nat} {f : Nat → Int32} {V : Cell} (h : Cod cd n f V) (hs : V.slots.size < 2 ^ 31) : Int32.ofNat V.slots.size >>> (cd &&& 31) = Int32.ofNat n := by
  rcases h with ⟨rfl, h, -⟩ | ⟨rfl, h, -⟩
  · rw [shr0, h]
  · rw [h, shr1 (by omega)]
/-- **x is a String of the n chars f 0 .. f (n - 1)**, Latin-1 or UTF-16; its array at t has the cell V -/
def Txt (x t : Addr) (V : Cell) (cd : Int32) (n : Nat) (f : Nat → Int32) (U : State) : Prop := Exact "java/lang/String" x U ∧ Has x "java/lang/String" "value" "[B" (.ref t) U ∧ Has x "java/lang/String" "coder" "B" (.int cd) U ∧ XT.Arr .byte t V U ∧ Cod cd n f V ∧ ∀ j, j < n → ¬ f j < 0 ∧ ¬ 65535 < f j
theorem Txt.mv {x t : Addr} {V : Cell} {cd : Int32} {n : Nat} {f : Nat → Int32} {U U' : State} (h : Txt x t V cd n f U) (hal : U.vm.Alike U'.vm) (hh : U'.heap = U.heap) : Txt x t V cd n f U' := ⟨h.1.mv hal hh, h.2.1.mv hal hh, h.2.2.1.mv hal hh, h.2.2.2.1.mv hal hh, h.2.2.2.2⟩
namespace Cdr
def yN : MethodName := ⟨"java/lang/String", "coder", "()B"⟩
abbrev yB : ByteArray := jdk_42_method_152_code
theorem d0 : decode yB 0 = .ok (.getstatic 38, 3) := by decide +kernel
theorem d3 : decode yB 3 = .ok (.ifCond (.eq) 10, 3) := by decide +kernel
theorem d6 : decode yB 6 = .ok (.aload_n 0, 1) := by decide +kernel
theorem d7 : decode yB 7 = .ok (.getfield 15, 3) := by decide +kernel
theorem d10 : decode yB 10 = .ok (.goto 4, 3) := by decide +kernel
theorem d14 : decode yB 14 = .ok (.ireturn, 1) := by decide +kernel
def site : List Cond := [.fieldLink "java/lang/String" 38 "java/lang/String" "COMPACT_STRINGS" "Z", .fieldLink "java/lang/String" 15 "java/lang/String" "coder" "B"]
def tab : Cond := tabOf yN yB 1 (some .byte) site
def P (x : Addr) (cd z : Int32) (args : Array Value) (s : State) : Prop := args = #[.ref x] ∧ Has x "java/lang/String" "coder" "B" (.int cd) s ∧ (cd = 0 ∨ cd = 1) ∧ StaticIs s "java/lang/String" "COMPACT_STRINGS" "Z" (.int z) ∧ ¬ z = 0
def E (cd : Int32) (r : Option Value) (s u : State) : Prop := XT.PureE (some (.int cd)) r s u
theorem law (l : Launch) (x : Addr) (cd z : Int32) : Law l yN 1 0 0 0 yB 1 (some .byte) site (P x cd z) (E cd) [] 0 0 := by
  refine Law.of_walk (plainFor_of_name (by decide +kernel)) (by decide +kernel) (by decide +kernel) (by decide) (fun _ _ h => by rw [h.1]; rfl) (fun _ U U' hal hh h => ⟨h.1, h.2.1.mv hal hh, h.2.2.1, h.2.2.2.1.there hal hh, h.2.2.2.2⟩) (fun r U U' V V' h1 hal h2 h => XT.PureE.mv r U U' V V' h1 hal h2 h) ?_
  intro p e s m args below meth c s₁ X0 hexec hbytes hml hret hlk hnm hown hh0 W hP
  obtain ⟨rfl, hx, hc, s1, hz⟩ := hP
  have c1 : Steps p.tables e below (s₁.setTop (entryFrame m #[.ref x] 1)) (s₁.setTop (mkF m 0 #[.val (.ref x)] [])) := entry rfl
  obtain ⟨T2, X2, q2, st2⟩ := X0.sget hexec hown (wk W (.fieldLink "java/lang/String" 38 "java/lang/String" "COMPACT_STRINGS" "Z")) s1 (fun _ _ h => by rw [hh0]; exact h) (g := (mkF m 0 #[.val (.ref x)] [])) rfl (hb hbytes d0)
  have hh2 := q2.trans hh0
  have c3 : Steps p.tables e below (s₁.setTop (entryFrame m #[.ref x] 1)) (T2.setTop (mkF m 7 #[.val (.ref x)] [.ref x])) := (c1.trans (st2 _ (Steps.refl _))).trans (by
    refine XS.ifNo X2.here hexec rfl (hb hbytes d3) rfl (i0_eq_f hz) ?_
    refine XS.aloadN X2.here hexec rfl (hb hbytes d6) rfl rfl ?_
    exact Steps.refl _)
  obtain ⟨T4, X4, q4, st4⟩ := X2.hget hexec hown (wk W (.fieldLink "java/lang/String" 15 "java/lang/String" "coder" "B")) (hx.mv X2.warmed.alike hh2) (g := (mkF m 7 #[.val (.ref x)] [.ref x])) rfl (rest := []) rfl (hb hbytes d7)
  have c5 : Steps p.tables e below (s₁.setTop (entryFrame m #[.ref x] 1)) (T4.setTop (mkF m 14 #[.val (.ref x)] [.int cd])) := (c3.trans (st4 _ (Steps.refl _))).trans (by
    refine XS.goto X4.here hexec rfl (pc0 := 10) rfl (hb hbytes d10) (by decide) rfl ?_
    exact Steps.refl _)
  exact ⟨T4, some (.int cd), _, _, _, X4, rfl, rfl, rfl, (fun h => by cases h), ⟨rfl, q4.trans hh2⟩, fun fs hl => c5.trans (X4.ireturnOut hexec hret (by rcases hc with rfl | rfl <;> rfl) (Or.inr (Or.inr (Or.inl rfl))) (hb hbytes d14) hl)⟩
end Cdr
namespace Len
def yN : MethodName := ⟨"java/lang/String", "length", "()I"⟩
abbrev yB : ByteArray := jdk_42_method_54_code
theorem d0 : decode yB 0 = .ok (.aload_n 0, 1) := by decide +kernel
theorem d1 : decode yB 1 = .ok (.getfield 9, 3) := by decide +kernel
theorem d4 : decode yB 4 = .ok (.arraylength, 1) := by decide +kernel
theorem d5 : decode yB 5 = .ok (.aload_n 0, 1) := by decide +kernel
theorem d6 : decode yB 6 = .ok (.invokevirtual 335, 3) := by decide +kernel
theorem d9 : decode yB 9 = .ok (.ishr, 1) := by decide +kernel
theorem d10 : decode yB 10 = .ok (.ireturn, 1) := by decide +kernel
def site : List Cond := [.fieldLink "java/lang/String" 9 "java/lang/String" "value" "[B", Cdr.tab] ++ virtW "java/lang/String" 335 "java/lang/String" Cdr.yN Cdr.yN
def tab : Cond := tabOf yN yB 1 (some .int) site
def P (x t : Addr) (V : Cell) (cd : Int32) (n : Nat) (f : Nat → Int32) (z : Int32) (args : Array Value) (s : State) : Prop := args = #[.ref x] ∧ Txt x t V cd n f s ∧ StaticIs s "java/lang/String" "COMPACT_STRINGS" "Z" (.int z) ∧ ¬ z = 0
def E (n : Nat) (r : Option Value) (s u : State) : Prop := XT.PureE (some (.int (Int32.ofNat n))) r s u
/-- length() of a String of n chars, in either coding -/
theorem law (l : Launch) (x t : Addr) (V : Cell) (cd : Int32) (n : Nat) (f : Nat → Int32) (z : Int32) : Law l yN 1 0 1 13 yB 1 (some .int) site (P x t V cd n f z) (E n) [] 0 0 := by
  refine Law.of_walk (plainFor_of_name (by decide +kernel)) (by decide +kernel) (by decide +kernel) (by decide) (fun _ _ h => by rw [h.1]; rfl) (fun _ U U' hal hh h => ⟨h.1, h.2.1.mv hal hh, h.2.2.1.there hal hh, h.2.2.2⟩) (fun r U U' V V' h1 hal h2 h => XT.PureE.mv r U U' V V' h1 hal h2 h) ?_
  intro p e s m args below meth c s₁ X0 hexec hbytes hml hret hlk hnm hown hh0 W hP
  obtain ⟨rfl, hx, s1, hz⟩ := hP
  have v31 := hx.2.2.2.1.2.2.2
  have c1 : Steps p.tables e below (s₁.setTop (entryFrame m #[.ref x] 1)) (s₁.setTop (mkF m 1 #[.val (.ref x)] [.ref x])) := Steps.trans (entry rfl) (by
    show Steps p.tables e below (s₁.setTop (mkF m 0 #[.val (.ref x)] [])) _
    refine XS.aloadN X0.here hexec rfl (hb hbytes d0) rfl rfl ?_
    exact Steps.refl _)
  obtain ⟨T2, X2, q2, st2⟩ := X0.hget hexec hown (wk W (.fieldLink "java/lang/String" 9 "java/lang/String" "value" "[B")) (hx.mv X0.warmed.alike hh0).2.1 (g := (mkF m 1 #[.val (.ref x)] [.ref x])) rfl (rest := []) rfl (hb hbytes d1)
  have hh2 := q2.trans hh0
  have hx2 := hx.mv X2.warmed.alike hh2
  have c3 : Steps p.tables e below (s₁.setTop (entryFrame m #[.ref x] 1)) (T2.setTop (mkF m 6 #[.val (.ref x)] [.ref x, .int (Int32.ofNat V.slots.size)])) := (c1.trans (st2 _ (Steps.refl _))).trans (by
    refine X2.alen hexec hx2.2.2.2.1 rfl rfl (hb hbytes d4) ?_
    refine XS.aloadN X2.here hexec rfl (hb hbytes d5) rfl rfl ?_
    exact Steps.refl _)
  obtain ⟨v4, T4, X4, E4, g4⟩ := X2.callV hexec (Cdr.law l x cd z) hown (wks W (virtW "java/lang/String" 335 "java/lang/String" Cdr.yN Cdr.yN)) rfl (by decide) (wk W Cdr.tab) (W := 1) (Nat.le_of_ble_eq_true rfl) (Nat.le_of_ble_eq_true rfl) (Nat.le_refl _) (Nat.le_refl _) (hx2.1.fc X2.warmed.alike) hx2.1.is (g := (mkF m 6 #[.val (.ref x)] [.ref x, .int (Int32.ofNat V.slots.size)])) rfl (by rw [hml]; rfl) c3 (argsL := []) (rest := [.int (Int32.ofNat V.slots.size)]) rfl rfl (by show 2 * 0 + (1 + 0) ≤ _; decide) (hb hbytes d6) (⟨rfl, hx2.2.2.1, hx.2.2.2.2.1.cd, s1.there X2.warmed.alike hh2, hz⟩)
  obtain ⟨rfl, q4⟩ := E4
  have c5 : Steps p.tables e below (s₁.setTop (entryFrame m #[.ref x] 1)) (T4.setTop (mkF m 10 #[.val (.ref x)] [.int (Int32.ofNat V.slots.size >>> (cd &&& 31))])) := Steps.trans g4 (by
    refine ishr X4.here hexec rfl (hb hbytes d9) rfl ?_
    exact Steps.refl _)
  rw [hx.2.2.2.2.1.len v31] at c5
  exact ⟨T4, some (.int (Int32.ofNat n)), _, _, _, X4, rfl, rfl, rfl, (fun h => by cases h), ⟨rfl, q4.trans hh2⟩, fun fs hl => c5.trans (X4.ireturnOut hexec hret rfl (Or.inl rfl) (hb hbytes d10) hl)⟩
theorem pays {l : Launch} {R : Room} {p : Program} {e : Env} {below : List Frame} {s : State} {sargs : Array Value} {len W : Nat} (x t : Addr) (V : Cell) (cd : Int32) (n : Nat) (f : Nat → Int32) (z : Int32) (htab : tab.before sargs s = true) (hfr : 2 ≤ R.frames) (hlo : W + 25 ≤ R.locals) :
    Back l R p e below s sargs yN len W (fun A₁ a₁ => A₁.cells + 0 ≤ R.cells ∧ A₁.slots + 0 ≤ R.slots ∧ P x t V cd n f z a₁ A₁.U) (fun A₁ _ v₁ B₁ => E n v₁ A₁.U B₁.U ∧ B₁.locs = A₁.locs ++ [] ∧ B₁.cells = A₁.cells + 0 ∧ B₁.slots = A₁.slots + 0) :=
  (law l x t V cd n f z).pays htab hfr (by omega)
end Len
namespace IsL
def yN : MethodName := ⟨"java/lang/String", "isLatin1", "()Z"⟩
abbrev yB : ByteArray := jdk_42_method_154_code
theorem d0 : decode yB 0 = .ok (.getstatic 38, 3) := by decide +kernel
theorem d3 : decode yB 3 = .ok (.ifCond (.eq) 14, 3) := by decide +kernel
theorem d6 : decode yB 6 = .ok (.aload_n 0, 1) := by decide +kernel
theorem d7 : decode yB 7 = .ok (.getfield 15, 3) := by decide +kernel
theorem d10 : decode yB 10 = .ok (.ifCond (.ne) 7, 3) := by decide +kernel
theorem d13 : decode yB 13 = .ok (.iconst 1, 1) := by decide +kernel
theorem d14 : decode yB 14 = .ok (.goto 4, 3) := by decide +kernel
theorem d17 : decode yB 17 = .ok (.iconst 0, 1) := by decide +kernel
theorem d18 : decode yB 18 = .ok (.ireturn, 1) := by decide +kernel
def site : List Cond := [.fieldLink "java/lang/String" 38 "java/lang/String" "COMPACT_STRINGS" "Z", .fieldLink "java/lang/String" 15 "java/lang/String" "coder" "B"]
def tab : Cond := tabOf yN yB 1 (some .boolean) site
def P (x : Addr) (cd z : Int32) (args : Array Value) (s : State) : Prop := args = #[.ref x] ∧ Has x "java/lang/String" "coder" "B" (.int cd) s ∧ (cd = 0 ∨ cd = 1) ∧ StaticIs s "java/lang/String" "COMPACT_STRINGS" "Z" (.int z) ∧ ¬ z = 0
def E (cd : Int32) (r : Option Value) (s u : State) : Prop := XT.PureE (some (.int (1 - cd))) r s u
theorem law (l : Launch) (x : Addr) (cd z : Int32) : Law l yN 1 0 0 0 yB 1 (some .boolean) site (P x cd z) (E cd) [] 0 0 := by
  refine Law.of_walk (plainFor_of_name (by decide +kernel)) (by decide +kernel) (by decide +kernel) (by decide) (fun _ _ h => by rw [h.1]; rfl) (fun _ U U' hal hh h => ⟨h.1, h.2.1.mv hal hh, h.2.2.1, h.2.2.2.1.there hal hh, h.2.2.2.2⟩) (fun r U U' V V' h1 hal h2 h => XT.PureE.mv r U U' V V' h1 hal h2 h) ?_
  intro p e s m args below meth c s₁ X0 hexec hbytes hml hret hlk hnm hown hh0 W hP
  obtain ⟨rfl, hx, hc, s1, hz⟩ := hP
  have c1 : Steps p.tables e below (s₁.setTop (entryFrame m #[.ref x] 1)) (s₁.setTop (mkF m 0 #[.val (.ref x)] [])) := entry rfl
  obtain ⟨T2, X2, q2, st2⟩ := X0.sget hexec hown (wk W (.fieldLink "java/lang/String" 38 "java/lang/String" "COMPACT_STRINGS" "Z")) s1 (fun _ _ h => by rw [hh0]; exact h) (g := (mkF m 0 #[.val (.ref x)] [])) rfl (hb hbytes d0)
  have hh2 := q2.trans hh0
  have c3 : Steps p.tables e below (s₁.setTop (entryFrame m #[.ref x] 1)) (T2.setTop (mkF m 7 #[.val (.ref x)] [.ref x])) := (c1.trans (st2 _ (Steps.refl _))).trans (by
    refine XS.ifNo X2.here hexec rfl (hb hbytes d3) rfl (i0_eq_f hz) ?_
    refine XS.aloadN X2.here hexec rfl (hb hbytes d6) rfl rfl ?_
    exact Steps.refl _)
  obtain ⟨T4, X4, q4, st4⟩ := X2.hget hexec hown (wk W (.fieldLink "java/lang/String" 15 "java/lang/String" "coder" "B")) (hx.mv X2.warmed.alike hh2) (g := (mkF m 7 #[.val (.ref x)] [.ref x])) rfl (rest := []) rfl (hb hbytes d7)
  have c5 : Steps p.tables e below (s₁.setTop (entryFrame m #[.ref x] 1)) (T4.setTop (mkF m 10 #[.val (.ref x)] [.int cd])) := c3.trans (st4 _ (Steps.refl _))
  have c6 : Steps p.tables e below (s₁.setTop (entryFrame m #[.ref x] 1)) (T4.setTop (mkF m 18 #[.val (.ref x)] [.int (1 - cd)])) := by
    rcases hc with rfl | rfl
    · exact c5.trans (by
        refine XS.ifNo X4.here hexec rfl (hb hbytes d10) rfl (i0_ne_f rfl) ?_
        refine iconstV X4.here hexec rfl 1 (hb hbytes d13) (by decide) ?_
        refine XS.goto X4.here hexec rfl (pc0 := 14) rfl (hb hbytes d14) (by decide) rfl ?_
        exact Steps.refl _)
    · exact c5.trans (by
        refine XS.ifYes X4.here hexec rfl (pc0 := 10) rfl (hb hbytes d10) rfl (i0_ne_t (by decide)) (by decide) rfl ?_
        refine iconstV X4.here hexec rfl 0 (hb hbytes d17) (by decide) ?_
        exact Steps.refl _)
  exact ⟨T4, some (.int (1 - cd)), _, _, _, X4, rfl, rfl, rfl, (fun h => by cases h), ⟨rfl, q4.trans hh2⟩, fun fs hl => c6.trans (X4.ireturnOut hexec hret (by rcases hc with rfl | rfl <;> rfl) (Or.inr (Or.inl rfl)) (hb hbytes d18) hl)⟩
end IsL
namespace LChA
def yN : MethodName := ⟨"java/lang/StringLatin1", "charAt", "([BI)C"⟩
abbrev yB : ByteArray := jdk_43_method_2_code
theorem d0 : decode yB 0 = .ok (.iload_n 1, 1) := by decide +kernel
theorem d1 : decode yB 1 = .ok (.aload_n 0, 1) := by decide +kernel
theorem d2 : decode yB 2 = .ok (.arraylength, 1) := by decide +kernel
theorem d3 : decode yB 3 = .ok (.invokestatic 9, 3) := by decide +kernel
theorem d6 : decode yB 6 = .ok (.aload_n 0, 1) := by decide +kernel
theorem d7 : decode yB 7 = .ok (.iload_n 1, 1) := by decide +kernel
theorem d8 : decode yB 8 = .ok (.baload, 1) := by decide +kernel
theorem d9 : decode yB 9 = .ok (.sipush 255, 3) := by decide +kernel
theorem d12 : decode yB 12 = .ok (.iand, 1) := by decide +kernel
theorem d13 : decode yB 13 = .ok (.i2c, 1) := by decide +kernel
theorem d14 : decode yB 14 = .ok (.ireturn, 1) := by decide +kernel
def site : List Cond := [JO.Str_checkIndex.tab] ++ staticW "java/lang/StringLatin1" 9 JO.Str_checkIndex.yN
def tab : Cond := tabOf yN yB 2 (some .char) site
def P (t : Addr) (V : Cell) (i : Nat) (u : Int32) (fm : Value) (args : Array Value) (s : State) : Prop := args = #[.ref t, .int (Int32.ofNat i)] ∧ XT.Arr .byte t V s ∧ V.slots[i]? = some (.int u) ∧ (StaticIs s "jdk/internal/util/Preconditions" "SIOOBE_FORMATTER" "Ljava/util/function/BiFunction;" fm ∧ fm.isRef = true)
def E (u : Int32) (r : Option Value) (s w : State) : Prop := XT.PureE (some (.int (chr8 u))) r s w
theorem law (l : Launch) (t : Addr) (V : Cell) (i : Nat) (u : Int32) (fm : Value) : Law l yN 2 2 2 27 yB 2 (some .char) site (P t V i u fm) (E u) [] 0 0 := by
  refine Law.of_walk (plainFor_of_name (by decide +kernel)) (by decide +kernel) (by decide +kernel) (by decide) (fun _ _ h => by rw [h.1]; rfl) (fun _ U U' hal hh h => ⟨h.1, h.2.1.mv hal hh, h.2.2.1, h.2.2.2.1.there hal hh, h.2.2.2.2⟩) (fun r U U' V V' h1 hal h2 h => XT.PureE.mv r U U' V V' h1 hal h2 h) ?_
  intro p e s m args below meth c s₁ X0 hexec hbytes hml hret hlk hnm hown hh0 W hP
  obtain ⟨rfl, hV, hu, s1, rf⟩ := hP
  have v31 := hV.2.2.2
  have hi : i < V.slots.size := (Array.getElem?_eq_some_iff.mp hu).1
  have c1 : Steps p.tables e below (s₁.setTop (entryFrame m #[.ref t, .int (Int32.ofNat i)] 2)) (s₁.setTop (mkF m 0 #[.val (.ref t), .val (.int (Int32.ofNat i))] [])) := entry rfl
  have c2 : Steps p.tables e below (s₁.setTop (entryFrame m #[.ref t, .int (Int32.ofNat i)] 2)) (s₁.setTop (mkF m 3 #[.val (.ref t), .val (.int (Int32.ofNat i))] [.int (Int32.ofNat V.slots.size), .int (Int32.ofNat i)])) := c1.trans (by
    refine XS.iloadN X0.here hexec rfl (hb hbytes d0) rfl ?_
    refine XS.aloadN X0.here hexec rfl (hb hbytes d1) rfl rfl ?_
    refine X0.alen hexec (hV.mv X0.warmed.alike hh0) rfl rfl (hb hbytes d2) ?_
    exact Steps.refl _)
  obtain ⟨v3, T3, X3, E3, g3⟩ := X0.callS hexec (JO.Str_checkIndex.law l (Int32.ofNat i) (Int32.ofNat V.slots.size) fm) hown (wks W (staticW "java/lang/StringLatin1" 9 JO.Str_checkIndex.yN)) (wk W JO.Str_checkIndex.tab) (W := 0) (Nat.le_of_ble_eq_true rfl) (Nat.le_of_ble_eq_true rfl) (Nat.le_refl _) (Nat.le_refl _) (g := (mkF m 3 #[.val (.ref t), .val (.int (Int32.ofNat i))] [.int (Int32.ofNat V.slots.size), .int (Int32.ofNat i)])) rfl (by rw [hml]; rfl) c2 (argsL := [.int (Int32.ofNat i), .int (Int32.ofNat V.slots.size)]) (rest := []) rfl rfl (by show 2 * 0 + 0 ≤ _; decide) (hb hbytes d3) (⟨rfl, rf, s1.there X0.warmed.alike hh0, Int32.ofNat_not_neg (by omega), lt32 v31 hi⟩)
  obtain ⟨rfl, q3⟩ := E3
  have hh3 := q3.trans hh0
  have c4 : Steps p.tables e below (s₁.setTop (entryFrame m #[.ref t, .int (Int32.ofNat i)] 2)) (T3.setTop (mkF m 14 #[.val (.ref t), .val (.int (Int32.ofNat i))] [.int (chr8 u)])) := Steps.trans g3 (by
    refine XS.aloadN X3.here hexec rfl (hb hbytes d6) rfl rfl ?_
    refine XS.iloadN X3.here hexec rfl (hb hbytes d7) rfl ?_
    refine X3.aget hexec (hV.mv X3.warmed.alike hh3) rfl hu rfl rfl (hb hbytes d8) ?_
    refine sipushV X3.here hexec rfl 255 (hb hbytes d9) (by decide) ?_
    refine XS.iand X3.here hexec rfl (hb hbytes d12) rfl ?_
    refine i2c X3.here hexec rfl (hb hbytes d13) rfl ?_
    exact Steps.refl _)
  exact ⟨T3, some (.int (chr8 u)), _, _, _, X3, rfl, rfl, rfl, (fun h => by cases h), ⟨rfl, hh3⟩, fun fs hl => c4.trans (X3.ireturnOut hexec hret (narrow_c _) (Or.inr (Or.inr (Or.inr (Or.inl rfl)))) (hb hbytes d14) hl)⟩
end LChA
end StrChars
namespace StrChars.Road
open Jvm Sem ClassFile Op Lib Jvm.Stand Jvm.Free Jvm.Free.XT
open Jvm.Lib.Cold (StaticIs)
theorem consq {a : Array Value} {s : State} {c : Jvm.Cond} {L : List Jvm.Cond} (h0 : c.before a s = true) (h : ∀ w ∈ L, w.before a s = true) : ∀ w ∈ c :: L, w.before a s = true := fun w hw => (List.mem_cons.mp hw).elim (fun e => e ▸ h0) (h w)
/-- the words of String.length(), either coding -/
abbrev wordsLen : List Jvm.Cond := [.code Len.yN Len.yB 1 (some .int), .initialized ST, .fieldLink ST 9 ST "value" "[B", .fieldLink ST 38 ST "COMPACT_STRINGS" "Z", .fieldLink ST 15 ST "coder" "B", .code Cdr.yN Cdr.yB 1 (some .byte), .methodLink ST 335 Cdr.yN, .declares Cdr.yN, .selects ST Cdr.yN Cdr.yN, .instanceMethod Cdr.yN]
theorem tabLen_of {a : Array Value} {s : State} (h : ∀ w ∈ wordsLen, w.before a s = true) : Len.tab.before a s = true := by
  have hc : Cdr.tab.before a s = true := unparts (wk h (.code Cdr.yN Cdr.yB 1 (some .byte))) (wks h (.initialized Cdr.yN.cls :: Cdr.site))
  have q := consq hc h
  exact unparts (wk q (.code Len.yN Len.yB 1 (some .int))) (wks q (.initialized Len.yN.cls :: Len.site))
theorem movedLen {Z s : State} {a0 args : Array Value} (hZ : Z.Warmed39 s.vm) (hw : ∀ d ∈ wordsLen, d.before a0 Z = true) : ∀ d ∈ wordsLen, d.before args s = true := fun d hd => by
  have q := hw d hd
  have t : ∀ d ∈ wordsLen, d = .arrayClass .byte ∨ (d.onTables && d.keepsFace) = true := by decide +kernel
  rcases t d hd with rfl | t
  · exact RoadKit.mvA hZ q
  · exact RoadKit.mv hZ q t
/-- the bytes of the chars cs, low before high -/
def wideBytes : List Int32 → List Value
  | [] => []
  | c :: cs => .int (lo8 c) :: .int (hi8 c) :: wideBytes cs
theorem wide_lo (d : Value) : ∀ (cs : List Int32) (j : Nat), j < cs.length → (wideBytes cs).getD (2 * j) d = .int (lo8 (cs.getD j 0))
  | [], j, h => absurd h (Nat.not_lt_zero j)
  | c :: cs, 0, _ => rfl
  | c :: cs, j + 1, h => by
    have q := wide_lo d cs j (by simpa using h)
    rw [show 2 * (j + 1) = 2 * j + 1 + 1 from by omega]
    simpa [wideBytes] using q
theorem wide_hi (d : Value) : ∀ (cs : List Int32) (j : Nat), j < cs.length → (wideBytes cs).getD (2 * j + 1) d = .int (hi8 (cs.getD j 0))
  | [], j, h => absurd h (Nat.not_lt_zero j)
  | c :: cs, 0, _ => rfl
  | c :: cs, j + 1, h => by
    have q := wide_hi d cs j (by simpa using h)
    rw [show 2 * (j + 1) + 1 = 2 * j + 1 + 1 + 1 from by omega]
    simpa [wideBytes] using q
theorem low_at (d : Value) (cs : List Int32) (j : Nat) (h : j < cs.length) : (cs.map fun c => Value.int (lo8 c)).getD j d = .int (lo8 (cs.getD j 0)) := by
  simp [List.getD_eq_getElem?_getD, h]
/-- an array of N2 bytes vs codes the chars cs by the coder cd -/
def CodA (cs : List Int32) (cd N2 : Int32) (vs : List Value) : Prop := (cd = 0 ∧ N2 = Int32.ofNat cs.length ∧ vs = (cs.map fun c => Value.int (lo8 c)) ∧ ∀ c ∈ cs, ¬ 255 < c) ∨ (cd = 1 ∧ N2 = Int32.ofNat (2 * cs.length) ∧ vs = wideBytes cs ∧ ∃ c ∈ cs, 255 < c)
theorem CodA.cod {cs : List Int32} {cd N2 : Int32} {vs : List Value} {V : Cell} (h : CodA cs cd N2 vs) (hn : 2 * cs.length < 2 ^ 31) (hs : V.slots.size = N2.toNatClampNeg) (hv : RoadKit.Has V vs (.int 0)) : Cod cd cs.length (fun j => cs.getD j 0) V := by
  rcases h with ⟨rfl, rfl, rfl, h⟩ | ⟨rfl, rfl, rfl, c, hc, hw⟩
  · rw [n32 (by omega)] at hs
    exact Or.inl ⟨rfl, hs, fun j hj => ⟨by rw [hv j (by omega), low_at _ _ _ hj], by
      have e : cs.getD j 0 = cs[j] := by simp [List.getD_eq_getElem?_getD, hj]
      show ¬ 255 < cs.getD j 0
      rw [e]; exact h _ (List.getElem_mem _)⟩⟩
  · rw [n32 (by omega)] at hs
    obtain ⟨j, hj, rfl⟩ := List.getElem_of_mem hc
    exact Or.inr ⟨rfl, hs, fun j hj => ⟨by rw [hv _ (by omega), wide_lo _ _ _ hj], by rw [hv _ (by omega), wide_hi _ _ _ hj]⟩, j, hj, by
      have e : cs.getD j 0 = cs[j] := by simp [List.getD_eq_getElem?_getD, hj]
      show 255 < cs.getD j 0
      rw [e]; exact hw⟩
/-- an object of exactly java/lang/String, its two fields found: as the laws ask it -/
theorem strObj {Z U : State} {a0 : Array Value} {kI : Nat} (wi : (Jvm.Cond.instantiable ST kI).before a0 Z = true) (al : Z.vm.Alike U.vm) {x : Addr} {v0 c0 : Value} (E : RoadKit.Exa Z U.heap x ST) (V : RoadKit.Fld Z U.heap x ST "value" "[B" v0) (C : RoadKit.Fld Z U.heap x ST "coder" "B" c0) :
    ∃ (D : Cell) (fV fC : Field), Blank ST x D U ∧ Found ST "value" "[B" fV U ∧ Found ST "coder" "B" fC U ∧ D.slots[fV.slot]? = some v0 ∧ D.slots[fC.slot]? = some c0 ∧ RoadKit.slotOf Z ST "value" "[B" = fV.slot ∧ RoadKit.slotOf Z ST "coder" "B" = fC.slot := by
  obtain ⟨D, cfV, kV, iV, fV, hD, gV, stV, knV, obV, asV, slV⟩ := V
  obtain ⟨D', cfC, kC, iC, fC, hD', gC, stC, -, -, asC, slC⟩ := C
  cases hD.symm.trans hD'
  obtain ⟨D2, kD, e1, e2, e3, e4, e5⟩ := E
  cases hD.symm.trans e1
  obtain ⟨c2, k2, i1, i2, i3, -⟩ := Cond.instantiable_spec wi
  cases e2.symm.trans i1
  cases e3.symm.trans i2
  obtain ⟨kU, u1, u2⟩ := al.2.2 _ _ e3
  exact ⟨D, fV, fC, ⟨hD, ⟨knV, fun q hq => by rw [hq] at obV; cases obV⟩, by rw [al.findClass]; exact e2, kU, u1, by rw [u2]; exact i3, by rw [u2]; exact e5 i3⟩, ⟨SBG.found_only al ⟨cfV, kV, iV, gV⟩, stV⟩, ⟨SBG.found_only al ⟨cfC, kC, iC, gC⟩, stC⟩, slV, slC, by simp [RoadKit.slotOf, gV], by simp [RoadKit.slotOf, gC]⟩
theorem sta_is {Z U : State} (al : Z.vm.Alike U.vm) {C n d : String} {v : Value} (S : RoadKit.Sta Z U.heap C n d v) : StaticIs U C n d v := by
  obtain ⟨cfS, iS, kS, fS, st, cS, t1, t2, t3, t4, t5, t6, t7⟩ := S
  exact StaticIs.there (s := { Z with heap := U.heap }) ⟨cfS, iS, kS, fS, st, cS, t1, t2, t3, t4, t5, (fun q => by rw [q] at t6; cases t6), t7⟩ al rfl
/-- **length() OF SUCH A STRING** -/
theorem lenW {p : Program} {l : Launch} {e : Env} {R : Room} {s : State} {args : Array Value} {below : List Frame} {len W : Nat} {Z : State} {a0 : Array Value} {h : Heap} (hZ : Z.Warmed39 s.vm) (hw : ∀ d ∈ wordsLen, d.before a0 Z = true) {kI : Nat} (wi : (Jvm.Cond.instantiable ST kI).before a0 Z = true)
    {x t : Addr} {kb : ClassId} {cs : List Int32} {cd N2 z : Int32} {vs : List Value} (E : RoadKit.Exa Z h x ST) (V : RoadKit.Fld Z h x ST "value" "[B" (.ref t)) (C : RoadKit.Fld Z h x ST "coder" "B" (.int cd)) (K : RoadKit.Arv Z h t kb .byte N2 vs (.int 0)) (hc : CodA cs cd N2 vs) (hb : ∀ c ∈ cs, ¬ c < 0 ∧ ¬ (65535 : Int32) < c)
    (S : RoadKit.Sta Z h ST "COMPACT_STRINGS" "Z" (.int z)) (hz : ¬ z = 0) (l2 : cs.length ≤ 4000) (hfr : 2 ≤ R.frames) (hlo : W + 25 ≤ R.locals) :
    Back l R p e below s args (⟨"java/lang/String", "length", "()I"⟩ : MethodName) len W (fun P a => a = #[.ref x] ∧ P.U.heap = h ∧ P.cells + 0 ≤ R.cells ∧ P.slots + 0 ≤ R.slots)
      (fun P _ v B => ∃ L, (v = some (.int (Int32.ofNat cs.length)) ∧ L = [] ∧ B.U.heap = h) ∧ B.locs = P.locs ++ L ∧ B.cells = P.cells + 0 ∧ B.slots = P.slots + 0) := by
  obtain ⟨A, K1, K2, K3, K4, K5, K6⟩ := K
  have hcod := hc.cod (by omega) K3 K5
  intro m meth c P g ig mk a X hg hsize hdg hW hn hp'
  obtain ⟨rfl, rfl, r1, r2⟩ := hp'
  have al : Z.vm.Alike P.U.vm := hZ.alike.trans X.warmed.alike
  obtain ⟨D, fV, fC, hB, F1, F2, g1, g2, -, -⟩ := strObj wi al E V C
  have hx : Txt x t A cd cs.length (fun j => cs.getD j 0) P.U := ⟨⟨_, hB.2.2.1, D, hB.1, rfl, by cases q : D.vm <;> first | rfl | exact absurd q (hB.2.1.2 _)⟩, Has.of hB F1 g1, Has.of hB F2 g2, ⟨K1.1, State.isArrayOf_alike al K1.2.1, K1.2.2, by rcases hcod with ⟨-, q, -⟩ | ⟨-, q, -⟩ <;> omega⟩, hcod, fun j hj => by
    have e : cs.getD j 0 = cs[j] := by simp [List.getD_eq_getElem?_getD, hj]
    show ¬ cs.getD j 0 < 0 ∧ ¬ 65535 < cs.getD j 0
    rw [e]; exact hb _ (List.getElem_mem _)⟩
  obtain ⟨v, B, X', ⟨⟨hv, hh⟩, hl, hk, hs⟩, st⟩ := Len.pays x t A cd cs.length (fun j => cs.getD j 0) z (tabLen_of (movedLen hZ hw)) hfr hlo m meth c P g ig mk _ X hg hsize hdg hW hn ⟨r1, r2, rfl, hx, sta_is al S, hz⟩
  exact ⟨v, B, X', ⟨[], ⟨hv, rfl, hh⟩, hl, hk, hs⟩, st⟩
end StrChars.Road
namespace StrChars.Road
open Jvm Sem ClassFile Op Lib Jvm.Stand Jvm.Free Jvm.Free.XT
open Jvm.Lib.Cold (StaticIs)
/-- the road's facts of a String, as the laws ask it -/
theorem txt_of {Z U : State} {a0 : Array Value} {kI : Nat} (wi : (Jvm.Cond.instantiable ST kI).before a0 Z = true) (al : Z.vm.Alike U.vm) {x t : Addr} {kb : ClassId} {cs : List Int32} {cd N2 : Int32} {vs : List Value} (E : RoadKit.Exa Z U.heap x ST) (V : RoadKit.Fld Z U.heap x ST "value" "[B" (.ref t)) (C : RoadKit.Fld Z U.heap x ST "coder" "B" (.int cd)) (K : RoadKit.Arv Z U.heap t kb .byte N2 vs (.int 0)) (hc : CodA cs cd N2 vs) (hb : ∀ c ∈ cs, ¬ c < 0 ∧ ¬ (65535 : Int32) < c) (l2 : cs.length ≤ 4000) :
    ∃ A, Txt x t A cd cs.length (fun j => cs.getD j 0) U := by
  obtain ⟨A, K1, K2, K3, K4, K5, K6⟩ := K
  have hcod := hc.cod (by omega) K3 K5
  obtain ⟨D, fV, fC, hB, F1, F2, g1, g2, -, -⟩ := strObj wi al E V C
  exact ⟨A, ⟨_, hB.2.2.1, D, hB.1, rfl, by cases q : D.vm <;> first | rfl | exact absurd q (hB.2.1.2 _)⟩, Has.of hB F1 g1, Has.of hB F2 g2, ⟨K1.1, State.isArrayOf_alike al K1.2.1, K1.2.2, by rcases hcod with ⟨-, q, -⟩ | ⟨-, q, -⟩ <;> omega⟩, hcod, fun j hj => by
    have e : cs.getD j 0 = cs[j] := by simp [List.getD_eq_getElem?_getD, hj]
    show ¬ cs.getD j 0 < 0 ∧ ¬ 65535 < cs.getD j 0
    rw [e]; exact hb _ (List.getElem_mem _)⟩
end StrChars.Road
namespace StrChars
open Jvm Sem ClassFile Op Lib Jvm.Stand Jvm.Free.XT Jvm.Free.ALB Jvm.Free.JM Jvm.Free
open Jvm.Lib.Cold (StaticIs)
namespace ChN
def yN : MethodName := ⟨"java/lang/String", "charAt", "(I)C"⟩
abbrev yB : ByteArray := jdk_42_method_56_code
theorem d0 : decode yB 0 = .ok (.aload_n 0, 1) := by decide +kernel
theorem d1 : decode yB 1 = .ok (.invokevirtual 492, 3) := by decide +kernel
theorem d4 : decode yB 4 = .ok (.ifCond (.eq) 12, 3) := by decide +kernel
theorem d7 : decode yB 7 = .ok (.aload_n 0, 1) := by decide +kernel
theorem d8 : decode yB 8 = .ok (.getfield 9, 3) := by decide +kernel
theorem d11 : decode yB 11 = .ok (.iload_n 1, 1) := by decide +kernel
theorem d12 : decode yB 12 = .ok (.invokestatic 495, 3) := by decide +kernel
theorem d15 : decode yB 15 = .ok (.ireturn, 1) := by decide +kernel
def site : List Cond := [.fieldLink "java/lang/String" 9 "java/lang/String" "value" "[B", IsL.tab, LChA.tab] ++ virtW "java/lang/String" 492 "java/lang/String" IsL.yN IsL.yN ++ staticW "java/lang/String" 495 LChA.yN
def tab : Cond := tabOf yN yB 2 (some .char) site
def P (x t : Addr) (V : Cell) (n : Nat) (f : Nat → Int32) (z : Int32) (fm : Value) (i : Nat) (args : Array Value) (s : State) : Prop := args = #[.ref x, .int (Int32.ofNat i)] ∧ Txt x t V 0 n f s ∧ i < n ∧ StaticIs s "java/lang/String" "COMPACT_STRINGS" "Z" (.int z) ∧ ¬ z = 0 ∧ StaticIs s "jdk/internal/util/Preconditions" "SIOOBE_FORMATTER" "Ljava/util/function/BiFunction;" fm ∧ fm.isRef = true
def E (f : Nat → Int32) (i : Nat) (r : Option Value) (s u : State) : Prop := XT.PureE (some (.int (f i))) r s u
/-- charAt(i) of a Latin-1 String of n chars, i < n: f i -/
theorem law (l : Launch) (x t : Addr) (V : Cell) (n : Nat) (f : Nat → Int32) (z : Int32) (fm : Value) (i : Nat) : Law l yN 2 1 3 40 yB 2 (some .char) site (P x t V n f z fm i) (E f i) [] 0 0 := by
  refine Law.of_walk (plainFor_of_name (by decide +kernel)) (by decide +kernel) (by decide +kernel) (by decide) (fun _ _ h => by rw [h.1]; rfl) (fun _ U U' hal hh h => ⟨h.1, h.2.1.mv hal hh, h.2.2.1, h.2.2.2.1.there hal hh, h.2.2.2.2.1, h.2.2.2.2.2.1.there hal hh, h.2.2.2.2.2.2⟩) (fun r U U' V V' h1 hal h2 h => XT.PureE.mv r U U' V V' h1 hal h2 h) ?_
  intro p e s m args below meth c s₁ X0 hexec hbytes hml hret hlk hnm hown hh0 W hP
  obtain ⟨rfl, hx, hi, s1, hz, s3, rf⟩ := hP
  have v31 := hx.2.2.2.1.2.2.2
  have hr := hx.2.2.2.2.2 i hi
  have hx0 := hx.mv X0.warmed.alike hh0
  have c1 : Steps p.tables e below (s₁.setTop (entryFrame m #[.ref x, .int (Int32.ofNat i)] 2)) (s₁.setTop (mkF m 1 #[.val (.ref x), .val (.int (Int32.ofNat i))] [.ref x])) := Steps.trans (entry rfl) (by
    show Steps p.tables e below (s₁.setTop (mkF m 0 #[.val (.ref x), .val (.int (Int32.ofNat i))] [])) _
    refine XS.aloadN X0.here hexec rfl (hb hbytes d0) rfl rfl ?_
    exact Steps.refl _)
  obtain ⟨v2, T2, X2, E2, g2⟩ := X0.callV hexec (IsL.law l x 0 z) hown (wks W (virtW "java/lang/String" 492 "java/lang/String" IsL.yN IsL.yN)) rfl (by decide) (wk W IsL.tab) (W := 0) (Nat.le_of_ble_eq_true rfl) (Nat.le_of_ble_eq_true rfl) (Nat.le_refl _) (Nat.le_refl _) (hx0.1.fc X0.warmed.alike) hx0.1.is (g := (mkF m 1 #[.val (.ref x), .val (.int (Int32.ofNat i))] [.ref x])) rfl (by rw [hml]; rfl) c1 (argsL := []) (rest := []) rfl rfl (by show 2 * 0 + 0 ≤ _; decide) (hb hbytes d1) (⟨rfl, hx0.2.2.1, hx.2.2.2.2.1.cd, s1.there X0.warmed.alike hh0, hz⟩)
  obtain ⟨rfl, q2⟩ := E2
  have hh2 := q2.trans hh0
  have hx2 := hx.mv X2.warmed.alike hh2
  obtain ⟨-, k1, k2⟩ | ⟨k0, -⟩ := hx.2.2.2.2.1
  · have c3 : Steps p.tables e below (s₁.setTop (entryFrame m #[.ref x, .int (Int32.ofNat i)] 2)) (T2.setTop (mkF m 8 #[.val (.ref x), .val (.int (Int32.ofNat i))] [.ref x])) := Steps.trans g2 (by
      refine XS.ifNo X2.here hexec rfl (hb hbytes d4) rfl (i0_eq_f (by decide)) ?_
      refine XS.aloadN X2.here hexec rfl (hb hbytes d7) rfl rfl ?_
      exact Steps.refl _)
    obtain ⟨T4, X4, q4, st4⟩ := X2.hget hexec hown (wk W (.fieldLink "java/lang/String" 9 "java/lang/String" "value" "[B")) hx2.2.1 (g := (mkF m 8 #[.val (.ref x), .val (.int (Int32.ofNat i))] [.ref x])) rfl (rest := []) rfl (hb hbytes d8)
    have hh4 := q4.trans hh2
    have c5 : Steps p.tables e below (s₁.setTop (entryFrame m #[.ref x, .int (Int32.ofNat i)] 2)) (T4.setTop (mkF m 12 #[.val (.ref x), .val (.int (Int32.ofNat i))] [.int (Int32.ofNat i), .ref t])) := (c3.trans (st4 _ (Steps.refl _))).trans (by
      refine XS.iloadN X4.here hexec rfl (hb hbytes d11) rfl ?_
      exact Steps.refl _)
    obtain ⟨v6, T6, X6, E6, g6⟩ := X4.callS hexec (LChA.law l t V i (lo8 (f i)) fm) hown (wks W (staticW "java/lang/String" 495 LChA.yN)) (wk W LChA.tab) (W := 0) (Nat.le_of_ble_eq_true rfl) (Nat.le_of_ble_eq_true rfl) (Nat.le_refl _) (Nat.le_refl _) (g := (mkF m 12 #[.val (.ref x), .val (.int (Int32.ofNat i))] [.int (Int32.ofNat i), .ref t])) rfl (by rw [hml]; rfl) c5 (argsL := [.ref t, .int (Int32.ofNat i)]) (rest := []) rfl rfl (by show 2 * 0 + 0 ≤ _; decide) (hb hbytes d12) (⟨rfl, hx.2.2.2.1.mv X4.warmed.alike hh4, (k2 i hi).1, s3.there X4.warmed.alike hh4, rf⟩)
    obtain ⟨rfl, q6⟩ := E6
    rw [chr8_lo8 hr.1 (k2 i hi).2] at g6
    exact ⟨T6, some (.int (f i)), _, _, _, X6, rfl, rfl, rfl, (fun h => by cases h), ⟨rfl, q6.trans hh4⟩, fun fs hl => Steps.trans g6 (X6.ireturnOut hexec hret (narrow_ch hr.1 hr.2) (Or.inr (Or.inr (Or.inr (Or.inl rfl)))) (hb hbytes d15) hl)⟩
  · exact absurd k0 (by decide)
theorem pays {l : Launch} {R : Room} {p : Program} {e : Env} {below : List Frame} {s : State} {sargs : Array Value} {len W : Nat} (x t : Addr) (V : Cell) (n : Nat) (f : Nat → Int32) (z : Int32) (fm : Value) (i : Nat) (htab : tab.before sargs s = true) (hfr : 4 ≤ R.frames) (hlo : W + 53 ≤ R.locals) :
    Back l R p e below s sargs yN len W (fun A₁ a₁ => A₁.cells + 0 ≤ R.cells ∧ A₁.slots + 0 ≤ R.slots ∧ P x t V n f z fm i a₁ A₁.U) (fun A₁ _ v₁ B₁ => E f i v₁ A₁.U B₁.U ∧ B₁.locs = A₁.locs ++ [] ∧ B₁.cells = A₁.cells + 0 ∧ B₁.slots = A₁.slots + 0) :=
  (law l x t V n f z fm i).pays htab hfr (by omega)
end ChN
end StrChars
namespace StrChars.Road
open Jvm Sem ClassFile Op Lib Jvm.Stand Jvm.Free Jvm.Free.XT
open Jvm.Lib.Cold (StaticIs)
/-- the words of String.charAt(int), the Latin-1 road alone -/
abbrev wordsChN : List Jvm.Cond := [.code ChN.yN ChN.yB 2 (some .char), .initialized ST, .fieldLink ST 9 ST "value" "[B", .fieldLink ST 38 ST "COMPACT_STRINGS" "Z", .fieldLink ST 15 ST "coder" "B", .code IsL.yN IsL.yB 1 (some .boolean), .methodLink ST 492 IsL.yN, .declares IsL.yN, .selects ST IsL.yN IsL.yN, .instanceMethod IsL.yN,
  .methodLink ST 495 LChA.yN, .static LChA.yN, .code LChA.yN LChA.yB 2 (some .char), .initialized "java/lang/StringLatin1", .methodLink "java/lang/StringLatin1" 9 JO.Str_checkIndex.yN, .static JO.Str_checkIndex.yN, .code JO.Str_checkIndex.yN JO.Str_checkIndex.yB 2 none,
  .fieldLink ST 1053 "jdk/internal/util/Preconditions" "SIOOBE_FORMATTER" "Ljava/util/function/BiFunction;", .methodLink ST 1059 JC.PreCheck.yN, .static JC.PreCheck.yN, .code JC.PreCheck.yN JC.PreCheck.yB 3 (some .int), .initialized "jdk/internal/util/Preconditions"]
theorem tabChN_of {a : Array Value} {s : State} (h : ∀ w ∈ wordsChN, w.before a s = true) : ChN.tab.before a s = true := by
  have hp : JC.PreCheck.tab.before a s = true := unparts (wk h (.code JC.PreCheck.yN JC.PreCheck.yB 3 (some .int))) (wks h (.initialized JC.PreCheck.yN.cls :: JC.PreCheck.site))
  have qk := consq hp h
  have hk : JO.Str_checkIndex.tab.before a s = true := unparts (wk qk (.code JO.Str_checkIndex.yN JO.Str_checkIndex.yB 2 none)) (wks qk (.initialized JO.Str_checkIndex.yN.cls :: JO.Str_checkIndex.site))
  have ql := consq hk h
  have hl : LChA.tab.before a s = true := unparts (wk ql (.code LChA.yN LChA.yB 2 (some .char))) (wks ql (.initialized LChA.yN.cls :: LChA.site))
  have hi : IsL.tab.before a s = true := unparts (wk h (.code IsL.yN IsL.yB 1 (some .boolean))) (wks h (.initialized IsL.yN.cls :: IsL.site))
  have q := consq hi (consq hl h)
  exact unparts (wk q (.code ChN.yN ChN.yB 2 (some .char))) (wks q (.initialized ChN.yN.cls :: ChN.site))
theorem movedChN {Z s : State} {a0 args : Array Value} (hZ : Z.Warmed39 s.vm) (hw : ∀ d ∈ wordsChN, d.before a0 Z = true) : ∀ d ∈ wordsChN, d.before args s = true := fun d hd => by
  have t : ∀ d ∈ wordsChN, (d.onTables && d.keepsFace) = true := by decide +kernel
  exact RoadKit.mv hZ (hw d hd) (t d hd)
/-- **charAt(i) OF A LATIN-1 STRING**, i < n: the char -/
theorem chN {p : Program} {l : Launch} {e : Env} {R : Room} {s : State} {args : Array Value} {below : List Frame} {len W : Nat} {Z : State} {a0 : Array Value} {h : Heap} (hZ : Z.Warmed39 s.vm) (hw : ∀ d ∈ wordsChN, d.before a0 Z = true) {kI : Nat} (wi : (Jvm.Cond.instantiable ST kI).before a0 Z = true)
    {x t : Addr} {kb : ClassId} {cs : List Int32} {N2 z : Int32} {vs : List Value} {fm : Value} {i : Nat} {j : Int32} (E : RoadKit.Exa Z h x ST) (V : RoadKit.Fld Z h x ST "value" "[B" (.ref t)) (C : RoadKit.Fld Z h x ST "coder" "B" (.int 0)) (K : RoadKit.Arv Z h t kb .byte N2 vs (.int 0)) (hc : CodA cs 0 N2 vs) (hb : ∀ c ∈ cs, ¬ c < 0 ∧ ¬ (65535 : Int32) < c)
    (S : RoadKit.Sta Z h ST "COMPACT_STRINGS" "Z" (.int z)) (hz : ¬ z = 0) (F : RoadKit.Sta Z h "jdk/internal/util/Preconditions" "SIOOBE_FORMATTER" "Ljava/util/function/BiFunction;" fm) (rf : fm.isRef = true) (l2 : cs.length ≤ 4000) (hi : i < cs.length) (hj : j = Int32.ofNat i) (hfr : 4 ≤ R.frames) (hlo : W + 53 ≤ R.locals) :
    Back l R p e below s args (⟨"java/lang/String", "charAt", "(I)C"⟩ : MethodName) len W (fun P a => a = #[.ref x, .int j] ∧ P.U.heap = h ∧ P.cells + 0 ≤ R.cells ∧ P.slots + 0 ≤ R.slots)
      (fun P _ v B => ∃ L, (v = some (.int (cs.getD i 0)) ∧ L = [] ∧ B.U.heap = h) ∧ B.locs = P.locs ++ L ∧ B.cells = P.cells + 0 ∧ B.slots = P.slots + 0) := by
  subst hj
  intro m meth c P g ig mk a X hg hsize hdg hW hn hp'
  obtain ⟨rfl, rfl, r1, r2⟩ := hp'
  have al : Z.vm.Alike P.U.vm := hZ.alike.trans X.warmed.alike
  obtain ⟨A, hx⟩ := txt_of wi al E V C K hc hb l2
  obtain ⟨v, B, X', ⟨⟨hv, hh⟩, hl, hk, hs⟩, st⟩ := ChN.pays x t A cs.length (fun j => cs.getD j 0) z fm i (tabChN_of (movedChN hZ hw)) hfr hlo m meth c P g ig mk _ X hg hsize hdg hW hn ⟨r1, r2, rfl, hx, hi, sta_is al S, hz, sta_is al F, rf⟩
  exact ⟨v, B, X', ⟨[], ⟨hv, rfl, hh⟩, hl, hk, hs⟩, st⟩
/-- what backV says of its String, as the contracts of this text ask it: cs's low bytes, coder 0 -/
theorem codOf {cs : List Int32} {n : Nat} (hn : cs.length = n) (hb : ∀ c ∈ cs, ¬ 255 < c) : CodA cs 0 (Int32.ofNat n) ((cs.map lo8).map Value.int) := Or.inl ⟨rfl, by rw [hn], by simp [List.map_map, Function.comp_def], hb⟩
end StrChars.Road
end Jvm.Pilot.@@N@@
namespace Jvm.Pilot.@@N@@
open Jvm Jvm.ClassFile Sem Op Lib Jvm.Free Jvm.Stand Jvm.LawKit Jvm.RoadKit Bundle Jvm.Pilot.@@N@@.Jvm.D
abbrev vr (a : Addr) : Slot := .val (.ref a)
abbrev vi (z : Int32) : Slot := .val (.int z)
abbrev SS (p : Program) (e : Env) (b : List Frame) (S T : State) : Prop := Steps p.tables e b S T
theorem ww {Z : State} {a0 : Array Value} (hw : ∀ d ∈ tables_1, d.before a0 Z = true) (i : Nat) {d : Jvm.Cond} (h : tables_1[i]? = some d) : d.before a0 Z = true := hw d (List.mem_of_getElem? h)
theorem own_nb {v : Int32} (h : v = 0 ∨ v = 1) : narrow .boolean (.int v) = .int v := by rcases h with rfl | rfl <;> rfl
theorem own_i2c {x : Int32} (h0 : ¬ x < 0) (h1 : ¬ 65535 < x) : x.toUInt32.toUInt16.toUInt32.toInt32 = x := by
  have e0 : (0 : Int32).toInt = 0 := rfl
  have e1 : (65535 : Int32).toInt = 65535 := rfl
  rw [Int32.lt_iff_toInt_lt, e0] at h0
  rw [Int32.lt_iff_toInt_lt, e1] at h1
  apply Int32.toBitVec_inj.mp
  apply BitVec.eq_of_toNat_eq
  have e : x.toUInt32.toUInt16.toUInt32.toInt32.toBitVec.toNat = x.toUInt32.toUInt16.toUInt32.toNat := rfl
  rw [e, UInt16.toNat_toUInt32, UInt32.toNat_toUInt16]
  show x.toBitVec.toNat % 2 ^ 16 = _
  have q : x.toInt = x.toBitVec.toInt := rfl
  rw [q, BitVec.toInt_eq_toNat_cond] at h0 h1
  have := x.toBitVec.isLt
  split at h0 <;> omega
theorem own_and255 (x : Int32) : ¬ (x &&& 255) < 0 ∧ ¬ 255 < (x &&& 255) := by
  have h : (x &&& 255).toBitVec.toNat < 256 := by
    simp only [Int32.toBitVec_and, BitVec.toNat_and]
    exact Nat.lt_succ_of_le Nat.and_le_right
  have e0 : (0 : Int32).toInt = 0 := rfl
  have e1 : (255 : Int32).toInt = 255 := rfl
  rw [Int32.lt_iff_toInt_lt, Int32.lt_iff_toInt_lt, e0, e1]
  have q : (x &&& 255).toInt = (x &&& 255).toBitVec.toInt := rfl
  rw [q, BitVec.toInt_eq_toNat_cond]
  split <;> omega
/-- a char below 256 -/
def C8 (x : Int32) : Prop := ¬ x < 0 ∧ ¬ (255 : Int32) < x
theorem own_up1 {x : Int32} (h : C8 x) : ¬ x < 0 ∧ ¬ (65535 : Int32) < x := ⟨h.1, fun q => h.2 (by rw [Int32.lt_iff_toInt_lt] at q ⊢; have e1 : (65535 : Int32).toInt = 65535 := rfl; have e2 : (255 : Int32).toInt = 255 := rfl; omega)⟩
theorem own_nar {x : Int32} (h : C8 x) : nar .char x = x := own_i2c (own_up1 h).1 (own_up1 h).2
theorem own_c8m (x : Int32) : C8 ((x &&& 255).toUInt32.toUInt16.toUInt32.toInt32) := by rw [i2c_mask]; exact own_and255 x
theorem own_c8n {x : Int32} (h : C8 x) : C8 (nar .char x) := by rw [own_nar h]; exact h
theorem own_nc {v : Int32} (h : ¬ v < 0 ∧ ¬ 65535 < v) : narrow .char (.int v) = .int v := by
  show Value.int (v.toUInt32.toUInt16.toUInt32.toInt32) = .int v
  rw [own_i2c h.1 h.2]
theorem own_nref {t : FieldType} {w : Value} (h : w.isRef = true) : narrow t w = w := by rcases ref_cases h with rfl | ⟨a, rfl⟩ <;> cases t <;> rfl
theorem own_al0 {P : Int32 → Prop} : ∀ c ∈ ([] : List Int32), P c := fun _ h => nomatch h
theorem own_alS {P : Int32 → Prop} {a : Int32} {L : List Int32} (h : P a) (r : ∀ c ∈ L, P c) : ∀ c ∈ a :: L, P c := List.forall_mem_cons.mpr ⟨h, r⟩
theorem own_up (cs : List Int32) (h : ∀ c ∈ cs, ¬ c < 0 ∧ ¬ (255 : Int32) < c) : ∀ c ∈ cs, ¬ c < 0 ∧ ¬ (65535 : Int32) < c := fun c hc => own_up1 (h c hc)
/-- a flag r says P -/
abbrev TF (r : Int32) (P : Prop) : Prop := (r = 1 ∧ P) ∨ (r = 0 ∧ ¬ P)
theorem own_y {r : Int32} {P : Prop} (h : TF r P) (q : ¬ r = 0) : P := h.elim (fun z => z.2) (fun z => absurd z.1 q)
theorem own_n {r : Int32} {P : Prop} (h : TF r P) (q : r = 0) : ¬ P := h.elim (fun z => absurd (z.1.symm.trans q) (by decide)) (fun z => z.2)
theorem own_b {r : Int32} {P : Prop} (h : TF r P) : r = 0 ∨ r = 1 := h.elim (fun z => Or.inr z.1) (fun z => Or.inl z.1)
theorem own_is1 {r : Int32} {P : Prop} (h : TF r P) (q : P) : r = 1 := h.elim (fun z => z.1) (fun z => absurd q z.2)
theorem own_is0 {r : Int32} {P : Prop} (h : TF r P) (q : ¬ P) : r = 0 := h.elim (fun z => absurd z.2 q) (fun z => z.1)
theorem own_ofN {a : Nat} (h : a < 2147483648) : (Int32.ofNat a).toInt = a := Int32.toInt_ofNat_small h
theorem own_ofN_lt {a b : Nat} (ha : a < 2147483648) (hb : b < 2147483648) : Int32.ofNat a < Int32.ofNat b ↔ a < b := by
  rw [Int32.lt_iff_toInt_lt, own_ofN ha, own_ofN hb]; omega
theorem own_ofN_inj {a b : Nat} (ha : a < 2147483648) (hb : b < 2147483648) : Int32.ofNat a = Int32.ofNat b ↔ a = b := by
  rw [← Int32.toInt_inj, own_ofN ha, own_ofN hb]; omega
theorem own_mask31 (x : Int32) : ∃ a : Nat, a < 2147483648 ∧ x &&& 2147483647 = Int32.ofNat a := by
  have h : (x &&& 2147483647).toBitVec.toNat < 2147483648 := by
    simp only [Int32.toBitVec_and, BitVec.toNat_and]
    exact Nat.lt_succ_of_le Nat.and_le_right
  refine ⟨_, h, ?_⟩
  apply Int32.toBitVec_inj.mp
  show _ = BitVec.ofNat 32 _
  rw [BitVec.ofNat_toNat]; simp
theorem own_rem31 (x : Int32) {m : Nat} (h0 : 0 < m) (h1 : m < 2147483648) : ∃ a : Nat, a < m ∧ (x &&& 2147483647) % Int32.ofNat m = Int32.ofNat a := by
  obtain ⟨a, ha, e⟩ := own_mask31 x
  refine ⟨a % m, Nat.mod_lt _ h0, ?_⟩
  rw [e]
  apply Int32.toInt_inj.mp
  have q : a % m ≤ a := Nat.mod_le _ _
  rw [Int32.toInt_mod, own_ofN ha, own_ofN h1, own_ofN (by omega)]
  exact (Int.ofNat_tmod a m).symm
theorem own_b8 (x : Int32) : (x.toInt8.toInt32).toInt8.toInt32 = x.toInt8.toInt32 := by simp
/-- a Latin-1 String x of the chars cs, its bytes at t -/
def OStr (Z : State) (h : Heap) (x t : Addr) (kb : ClassId) (cs : List Int32) : Prop :=
  Exa Z h x "java/lang/String" ∧ Fld Z h x "java/lang/String" "value" "[B" (.ref t) ∧ Fld Z h x "java/lang/String" "coder" "B" (.int 0) ∧ Arv Z h t kb .byte (Int32.ofNat cs.length) ((cs.map (fun c => c.toInt8.toInt32)).map Value.int) (.int 0) ∧ (∀ c ∈ cs, ¬ c < 0 ∧ ¬ (255 : Int32) < c) ∧ cs.length ≤ 4000
theorem OStr.cod {Z : State} {h : Heap} {x t : Addr} {kb : ClassId} {cs : List Int32} (S : OStr Z h x t kb cs) : StrChars.Road.CodA cs 0 (Int32.ofNat cs.length) ((cs.map (fun c => c.toInt8.toInt32)).map Value.int) := StrChars.Road.codOf rfl (fun c hc => (S.2.2.2.2.1 c hc).2)
theorem own_tfv {v : Option Value} {P : Prop} (h : (v = some (.int 1) ∧ P) ∨ (v = some (.int 0) ∧ ¬ P)) : ∃ r : Int32, v = some (.int r) ∧ TF r P := h.elim (fun z => ⟨1, z.1, Or.inl ⟨rfl, z.2⟩⟩) (fun z => ⟨0, z.1, Or.inr ⟨rfl, z.2⟩⟩)
theorem own_tfeq {r v : Int32} {P : Prop} (h1 : TF r P) (h2 : TF v P) : r = v := h1.elim (fun z => z.1.trans (own_is1 h2 z.2).symm) (fun z => z.1.trans (own_is0 h2 z.2).symm)
theorem own_tfiff {r : Int32} {P Q : Prop} (h : TF r P) (i : P ↔ Q) : TF r Q := h.imp (fun z => ⟨z.1, i.mp z.2⟩) (fun z => ⟨z.1, fun q => z.2 (i.mpr q)⟩)
theorem own_ushr (x : Int32) {k : Nat} (hk : 0 < k ∧ k < 32) : ∃ a : Nat, a < 2147483648 ∧ (x.toUInt32 >>> (Int32.ofNat k &&& 31).toUInt32).toInt32 = Int32.ofNat a := by
  obtain ⟨h0, h1⟩ := hk
  refine ⟨x.toUInt32.toNat >>> k, ?_, ?_⟩
  · have := x.toUInt32.toNat_lt
    rw [Nat.shiftRight_eq_div_pow]
    have : 2 ^ 1 ≤ 2 ^ k := Nat.pow_le_pow_right (by decide) h0
    apply Nat.div_lt_of_lt_mul
    omega
  · have e : (Int32.ofNat k &&& 31).toUInt32 = UInt32.ofNat k := by
      have : k < 32 := h1
      have q : ∀ j : Fin 32, (Int32.ofNat j.val &&& 31).toUInt32 = UInt32.ofNat j.val := by decide
      exact q ⟨k, h1⟩
    rw [e]
    apply Int32.toBitVec_inj.mp
    apply BitVec.eq_of_toNat_eq
    show (x.toUInt32 >>> UInt32.ofNat k).toNat = (BitVec.ofNat 32 _).toNat
    rw [UInt32.toNat_shiftRight, BitVec.toNat_ofNat]
    have hlt : x.toUInt32.toNat >>> k < 2 ^ 32 := Nat.lt_of_le_of_lt (Nat.shiftRight_le _ _) x.toUInt32.toNat_lt
    rw [Nat.mod_eq_of_lt hlt]
    congr 1
    simp
    omega
theorem own_tfe {v : Option Value} {n : Nat} (h : v = some (.int (if n = 0 then 1 else 0))) : ∃ r : Int32, v = some (.int r) ∧ TF r (n = 0) := by
  by_cases q : n = 0
  · exact ⟨1, by rw [h, if_pos q], Or.inl ⟨rfl, q⟩⟩
  · exact ⟨0, by rw [h, if_neg q], Or.inr ⟨rfl, q⟩⟩
theorem own_m4 (x : Int32) : x &&& 3 = 0 ∨ x &&& 3 = 1 ∨ x &&& 3 = 2 ∨ x &&& 3 = 3 := by
  have h : (x &&& 3).toBitVec.toNat < 4 := by
    simp only [Int32.toBitVec_and, BitVec.toNat_and]
    exact Nat.lt_succ_of_le Nat.and_le_right
  have e : ∀ k : Nat, (x &&& 3).toBitVec.toNat = k → x &&& 3 = Int32.ofNat k := fun k hk => by
    apply Int32.toBitVec_inj.mp
    show _ = BitVec.ofNat 32 _
    rw [← hk, BitVec.ofNat_toNat]; simp
  have q : (x &&& 3).toBitVec.toNat = 0 ∨ (x &&& 3).toBitVec.toNat = 1 ∨ (x &&& 3).toBitVec.toNat = 2 ∨ (x &&& 3).toBitVec.toNat = 3 := by omega
  rcases q with q | q | q | q
  · exact Or.inl (e 0 q)
  · exact Or.inr (Or.inl (e 1 q))
  · exact Or.inr (Or.inr (Or.inl (e 2 q)))
  · exact Or.inr (Or.inr (Or.inr (e 3 q)))
theorem own_m3 (x : Int32) : (x &&& 3) % 3 = 0 ∨ (x &&& 3) % 3 = 1 ∨ (x &&& 3) % 3 = 2 := by
  rcases own_m4 x with q | q | q | q <;> rw [q] <;> decide
theorem own_idx {a m : Nat} (h : a < m) (hm : m < 2147483648) : ¬ Int32.ofNat a < 0 ∧ Int32.ofNat a < Int32.ofNat m := by
  have e0 : (0 : Int32).toInt = 0 := rfl
  rw [Int32.lt_iff_toInt_lt, Int32.lt_iff_toInt_lt, e0, own_ofN (by omega), own_ofN hm]; omega
theorem own_in_words : ∀ d ∈ StrChars.Road.words, d ∈ tables_1 := by decide +kernel
theorem own_in_wordsLen : ∀ d ∈ StrChars.Road.wordsLen, d ∈ tables_1 := by decide +kernel
theorem own_in_wordsChN : ∀ d ∈ StrChars.Road.wordsChN, d ∈ tables_1 := by decide +kernel
abbrev EL : List (String × Nat) := [("com/example/evenkeel/evenkeel/Route", 7), ("com/example/evenkeel/evenkeel/Route", 22), ("com/example/evenkeel/evenkeel/Route", 45), ("java/lang/String", 7)]
theorem own_since (s : State) : s.Since s.vm 0 := (State.WarmedH.refl s).since 0
theorem own_safe {Z : State} {vm : Vm} {h : Heap} {x : Addr} (hal : Z.vm.Alike vm) (E : Exa Z h x "java/lang/String") (F : Fld Z h x "java/lang/String" "value" "[B" .null) : Safe Z EL vm h x := fun B => by
  obtain ⟨cl1, k, e1, e2, -⟩ := E
  obtain ⟨cl2, cf, k2, i, f, f1, f2, -, -, -, -, f7⟩ := F
  cases e1.symm.trans f1
  obtain ⟨p, -, u, a, -, q, -, G, rfl | rfl⟩ := B
  · cases (show h[q.sa]? = some q.sC from G.ha).symm.trans e1
    obtain ⟨cS, ⟨⟨-, -, -, ⟨cv, kv, iv, s4, -⟩, -, -, -, s8, -⟩, -⟩, -⟩ := G
    obtain ⟨k3, z⟩ := ff_back (U := Wst Z vm h) hal s4
    cases f2.symm.trans z
    cases f7.symm.trans s8
  · cases (show h[q.sd]? = some q.SA from G.hd).symm.trans e1
    obtain ⟨cS, -, -, g, -⟩ := G
    have g' : vm.findClass "[B" = some q.SA.cls := g
    rw [hal.findClass] at g'
    obtain ⟨k1, q1, q2⟩ := Vm.findClass_spec g'
    obtain ⟨k3, q3, q4⟩ := Vm.findClass_spec e2
    cases q1.symm.trans q3
    exact absurd (q2.symm.trans q4) (by decide)
abbrev EL0 : List (String × Nat) := []
theorem own_safe0 {Z : State} {vm : Vm} {h : Heap} {x : Addr} : Safe Z EL0 vm h x := fun B => by
  obtain ⟨p, hp, -⟩ := B
  cases hp
theorem own_CH0 {Z : State} {vm : Vm} {h : Heap} : CHv Z EL0 vm h := fun p hp => nomatch hp
theorem own_CHr0 {Z : State} {vm vm1 : Vm} {h h1 : Heap} (q : h.size ≤ h1.size) : CHr Z EL0 vm h vm1 h1 := ⟨own_CH0, q, fun y B => absurd B own_safe0⟩
theorem own_EW {Z : State} {a0 : Array Value} (hw : ∀ d ∈ tables_1, d.before a0 Z = true) : EW Z a0 EL := (EW.cons (ww hw 34 rfl) (by decide) (EW.cons (ww hw 42 rfl) (by decide) (EW.cons (ww hw 136 rfl) (by decide) (EW.cons (ww hw 19 rfl) (by decide) EW.nil))))
theorem own_strw {Z : State} {a0 : Array Value} (hw : ∀ d ∈ tables_1, d.before a0 Z = true) : ∀ a ∈ Bundle.stringAtoms, a.before a0 Z = true := fun d hd => hw d ((by decide +kernel : ∀ d ∈ Bundle.stringAtoms, d ∈ tables_1) d hd)
theorem own_CH {s : State} {args : Array Value} {tb : Tables} {e : Env} (hw : ∀ d ∈ tables_1, d.before args s = true) (hc : call_1_1 tb e args s) (h2 : (Jvm.Cond.not (Jvm.Cond.eq (Jvm.Term.static "java/lang/String" "COMPACT_STRINGS" "Z") (Jvm.Term.int (0 : Int32)))).before args s = true) : CHv s EL s.vm s.heap := CHv.start (a0 := args) (own_EW hw) hc h2 (ww hw 20 rfl) (ww hw 6 rfl)
/-- the hash of the chars, as String computes it -/
def own_hk (cs : List Int32) (k : Nat) : Int32 := (cs.take k).foldl (fun a ch => 31 * a + ch) 0
theorem own_hk1 {cs : List Int32} {k : Nat} (h : k < cs.length) : own_hk cs (k + 1) = 31 * own_hk cs k + cs.getD k 0 := by
  unfold own_hk
  rw [List.take_succ_eq_append_getElem h, List.foldl_append, List.getD_eq_getElem?_getD, List.getElem?_eq_getElem h]
  rfl
def own_hash (cs : List Int32) : Int32 := own_hk cs cs.length
/-- a String made here: its text, its hash not yet computed -/
def OStrH (Z : State) (h : Heap) (x t : Addr) (kb : ClassId) (cs : List Int32) : Prop := OStr Z h x t kb cs ∧ Fld Z h x "java/lang/String" "hash" "I" (.int 0) ∧ Fld Z h x "java/lang/String" "hashIsZero" "Z" (.int 0) ∧ (2 ≤ cs.length → Z.vm.findClass "[B" = some kb)
theorem own_exaB {Z : State} {h : Heap} {t : Addr} {kb : ClassId} {z : Int32} {vs : List Value} {dv : Value} (V : Arv Z h t kb .byte z vs dv) (hf : Z.vm.findClass "[B" = some kb) : Exa Z h t "[B" := by
  obtain ⟨c, A, q, -⟩ := V
  obtain ⟨h1, ⟨h2, k, h3, comp, h4⟩, h5⟩ := A
  subst q
  refine ⟨c, k, h1, hf, h3, ?_, fun z => by rw [h4] at z; cases z⟩
  cases hv : c.vm.isStatics with
  | false => rfl
  | true => exact absurd (show c.vm.isStatics = false from Arr.plain (⟨h1, ⟨h2, k, h3, comp, h4⟩, h5⟩ : Arr Z h t c .byte)) (by rw [hv]; decide)
theorem own_get8 {cs : List Int32} {k : Nat} (h : ∀ ch ∈ cs, C8 ch) (hk : k < cs.length) : C8 (cs.getD k 0) := by
  rw [List.getD_eq_getElem?_getD, List.getElem?_eq_getElem hk]; exact h _ (List.getElem_mem hk)
theorem own_getb {cs : List Int32} {k : Nat} (hk : k < cs.length) (h2 : k < 2147483648) : ((cs.map (fun c => c.toInt8.toInt32)).map Value.int).getD (Int32.ofNat k).toNatClampNeg (.int 0) = .int ((cs.getD k 0).toInt8.toInt32) := by
  rw [clamp_of rfl h2]
  simp [List.getD_eq_getElem?_getD, hk]
theorem own_h1 {cs : List Int32} (h : cs.length = 1) : own_hash cs = cs.getD 0 0 := by
  match cs, h with
  | [a], _ => show 31 * 0 + a = a; simp
theorem own_h0 {cs : List Int32} (h : cs.length = 0) : own_hash cs = 0 := by
  match cs, h with
  | [], _ => rfl
def QInt (Z : State) (r : Int32) (h0 : Heap) (n0 : Nat) (v : Option Value) (h : Heap) (L : List Loc) : Prop := v = some (.int r) ∧ Fr n0 L ∧ h = h0

theorem D0_0 : decode jdk_48_method_5_code 0 = .ok (.iload_n 2, 1) := by decide +kernel
theorem D0_1 : decode jdk_48_method_5_code 1 = .ok (.iload_n 3, 1) := by decide +kernel
theorem D0_2 : decode jdk_48_method_5_code 2 = .ok (.iadd, 1) := by decide +kernel
theorem D0_3 : decode jdk_48_method_5_code 3 = .ok (.istore 4, 2) := by decide +kernel
theorem D0_5 : decode jdk_48_method_5_code 5 = .ok (.iload_n 2, 1) := by decide +kernel
theorem D0_6 : decode jdk_48_method_5_code 6 = .ok (.istore 5, 2) := by decide +kernel
theorem D0_8 : decode jdk_48_method_5_code 8 = .ok (.iload 5, 2) := by decide +kernel
theorem D0_10 : decode jdk_48_method_5_code 10 = .ok (.iload 4, 2) := by decide +kernel
theorem D0_12 : decode jdk_48_method_5_code 12 = .ok (.if_icmp .ge 23, 3) := by decide +kernel
theorem D0_15 : decode jdk_48_method_5_code 15 = .ok (.bipush 31, 2) := by decide +kernel
theorem D0_17 : decode jdk_48_method_5_code 17 = .ok (.iload_n 0, 1) := by decide +kernel
theorem D0_18 : decode jdk_48_method_5_code 18 = .ok (.imul, 1) := by decide +kernel
theorem D0_19 : decode jdk_48_method_5_code 19 = .ok (.aload_n 1, 1) := by decide +kernel
theorem D0_20 : decode jdk_48_method_5_code 20 = .ok (.iload 5, 2) := by decide +kernel
theorem D0_22 : decode jdk_48_method_5_code 22 = .ok (.baload, 1) := by decide +kernel
theorem D0_23 : decode jdk_48_method_5_code 23 = .ok (.sipush 255, 3) := by decide +kernel
theorem D0_26 : decode jdk_48_method_5_code 26 = .ok (.iand, 1) := by decide +kernel
theorem D0_27 : decode jdk_48_method_5_code 27 = .ok (.iadd, 1) := by decide +kernel
theorem D0_28 : decode jdk_48_method_5_code 28 = .ok (.istore_n 0, 1) := by decide +kernel
theorem D0_29 : decode jdk_48_method_5_code 29 = .ok (.iinc 5 1, 3) := by decide +kernel
theorem D0_32 : decode jdk_48_method_5_code 32 = .ok (.goto (-24), 3) := by decide +kernel
theorem D0_35 : decode jdk_48_method_5_code 35 = .ok (.iload_n 0, 1) := by decide +kernel
theorem D0_36 : decode jdk_48_method_5_code 36 = .ok (.ireturn, 1) := by decide +kernel
theorem pn_jdk_internal_util_ArraysSupport : plainName "jdk/internal/util/ArraysSupport" = true := by first | (simp [plainName, overriddenIn]; done) | decide +kernel
theorem ef_rmSgn (m : MethodId) (x0 : Int32) (x1 : Addr) (x2 : Int32) (x3 : Int32) : entryFrame m #[(.int x0), (.ref x1), (.int x2), (.int x3)] 6 = mkF m 0 #[.val (.int x0), .val (.ref x1), .val (.int x2), .val (.int x3), .unset, .unset] [] := by first | (simp [entryFrame, mkF, argsToLocals, Value.category]; done) | rfl
set_option maxRecDepth 65536 in
set_option maxHeartbeats 40000000 in
theorem rmSgn (l : Launch) (Z : State) (a0 : Array Value) (hw : ∀ d ∈ tables_1, d.before a0 Z = true) (ws : List Jvm.Cond) (tx : Addr) (kx : ClassId) (cs : List Int32) (h0 : Heap) (n0 : Nat) (Z0 : n0 ≤ h0.size) (Vx : Arv Z h0 tx kx .byte (Int32.ofNat cs.length) ((cs.map (fun c => c.toInt8.toInt32)).map Value.int) (.int 0)) (h8 : ∀ ch ∈ cs, C8 ch) (hl : cs.length ≤ 4000) :
    MetFree l (⟨"jdk/internal/util/ArraysSupport", "signedHashCode", "(I[BII)I"⟩ : MethodName) (head1 (Jvm.Cond.code (⟨"jdk/internal/util/ArraysSupport", "signedHashCode", "(I[BII)I"⟩ : MethodName) jdk_48_method_5_code 6 (some .int) :: ws) ({ frames := 0, cells := 0, slots := 0, locals := 0 } : Room)) (fun aa U => aa = #[(.int 0), (.ref tx), (.int 0), (.int (Int32.ofNat cs.length))] ∧ Z.Warmed39 U.vm ∧ U.heap = h0) (fun _ _ _ _ _ => True) (fun _ U o U' => ∃ v L, o = .returned v ∧ QInt Z (own_hash cs) h0 n0 v U'.heap L ∧ FrameEnd U o U' L ({ frames := 0, cells := 0, slots := 0, locals := 0 } : Room).cells ({ frames := 0, cells := 0, slots := 0, locals := 0 } : Room).slots) := by
  refine MetFree.of_bodySF (plainFor_of_name pn_jdk_internal_util_ArraysSupport) hisR ?_
  intro p e s m args below meth c s₁ Bd hml0 hP hK
  obtain ⟨rfl, hZ, hh⟩ := hP
  have hx := Bd.exec
  have hby := Bd.bytes
  have hml : c.maxLocals = 6 := hml0
  have hown : s.vm.findClass "jdk/internal/util/ArraysSupport" = some m.cls := findClass_of_methodNamed Bd.named
  have hnm := (name_of_methodNamed Bd.named Bd.method).1
  have X0 : Stand p l e ({ frames := 0, cells := 0, slots := 0, locals := 0 } : Room) s m #[(.int 0), (.ref tx), (.int 0), (.int (Int32.ofNat cs.length))] below meth c s₁ [] 0 0 := Stand.of_body Bd
  have e0 : s₁.heap = h0 := by rw [← hh, Bd.state]; rfl
  have N0 := Fr.nil n0
  have K0 := Keep.refl h0 []
  obtain ⟨S0, hS0⟩ : ∃ z, z = s₁.setTop (entryFrame m #[(.int 0), (.ref tx), (.int 0), (.int (Int32.ofNat cs.length))] 6) := ⟨_, rfl⟩
  rw [← hS0]
  have c0 : SS p e below S0 (s₁.setTop (mkF m 0 #[vi 0, vr tx, vi 0, vi (Int32.ofNat cs.length), .unset, .unset] [])) := by
    rw [hS0]; exact castTop (ef_rmSgn m (0 : Int32) tx (0 : Int32) (Int32.ofNat cs.length)) (Steps.refl _)
  have c1 : SS p e below S0 (s₁.setTop (mkF m 3 #[vi 0, vr tx, vi 0, vi (Int32.ofNat cs.length), .unset, .unset] [(.int ((0 : Int32) + (Int32.ofNat cs.length)))])) := c0.trans (by
    show SS p e below (s₁.setTop (mkF m 0 #[vi 0, vr tx, vi 0, vi (Int32.ofNat cs.length), .unset, .unset] [])) _
    refine XS.iloadN X0.here hx rfl (hb hby D0_0) rfl ?_
    refine XS.iloadN X0.here hx rfl (hb hby D0_1) rfl ?_
    refine XS.iadd X0.here hx rfl (hb hby D0_2) rfl ?_
    exact Steps.refl _)
  rw [(show (0 : Int32) + Int32.ofNat cs.length = Int32.ofNat cs.length from Int32.zero_add _)] at c1
  have c2 : SS p e below S0 (s₁.setTop (mkF m 8 #[vi 0, vr tx, vi 0, vi (Int32.ofNat cs.length), vi (Int32.ofNat cs.length), vi 0] [])) := c1.trans (by
    show SS p e below (s₁.setTop (mkF m 3 #[vi 0, vr tx, vi 0, vi (Int32.ofNat cs.length), .unset, .unset] [(.int (Int32.ofNat cs.length))])) _
    refine XS.istore X0.here hx rfl (hb hby D0_3) rfl (l' := #[vi 0, vr tx, vi 0, vi (Int32.ofNat cs.length), vi (Int32.ofNat cs.length), .unset]) rfl ?_
    refine XS.iloadN X0.here hx rfl (hb hby D0_5) rfl ?_
    refine XS.istore X0.here hx rfl (hb hby D0_6) rfl (l' := #[vi 0, vr tx, vi 0, vi (Int32.ofNat cs.length), vi (Int32.ofNat cs.length), vi 0]) rfl ?_
    exact Steps.refl _)
  have lp : ∀ (n k : Nat) (T : State) (locs : List Loc), n = cs.length - k → k ≤ cs.length → Fr n0 locs → Stand p l e ({ frames := 0, cells := 0, slots := 0, locals := 0 } : Room) s m #[(.int 0), (.ref tx), (.int 0), (.int (Int32.ofNat cs.length))] below meth c T locs 0 0 → T.heap = h0 → SS p e below S0 (T.setTop (mkF m 8 #[vi (own_hk cs k), vr tx, vi 0, vi (Int32.ofNat cs.length), vi (Int32.ofNat cs.length), vi (Int32.ofNat k)] [])) →
      ∃ (T : State) (locs : List Loc), Fr n0 locs ∧ Stand p l e ({ frames := 0, cells := 0, slots := 0, locals := 0 } : Room) s m #[(.int 0), (.ref tx), (.int 0), (.int (Int32.ofNat cs.length))] below meth c T locs 0 0 ∧ T.heap = h0 ∧ SS p e below S0 (T.setTop (mkF m 35 #[vi (own_hk cs cs.length), vr tx, vi 0, vi (Int32.ofNat cs.length), vi (Int32.ofNat cs.length), vi (Int32.ofNat cs.length)] [])) := by
    intro n
    induction n with
    | zero =>
      intro k T locs hn hkl NN X eT cc
      have c3 : SS p e below S0 (T.setTop (mkF m 35 #[vi (own_hk cs k), vr tx, vi 0, vi (Int32.ofNat cs.length), vi (Int32.ofNat cs.length), vi (Int32.ofNat k)] [])) := cc.trans (by
        show SS p e below (T.setTop (mkF m 8 #[vi (own_hk cs k), vr tx, vi 0, vi (Int32.ofNat cs.length), vi (Int32.ofNat cs.length), vi (Int32.ofNat k)] [])) _
        refine XS.iload X.here hx rfl (hb hby D0_8) rfl ?_
        refine XS.iload X.here hx rfl (hb hby D0_10) rfl ?_
        refine XS.icmpYes X.here hx rfl (pc0 := 12) (pc' := 35) rfl (hb hby D0_12) rfl (flt (fun z => absurd ((own_ofN_lt (by omega) (by omega)).mp z) (by omega) : ¬ (Int32.ofNat k) < (Int32.ofNat cs.length))).2.1 (by decide) (by decide) ?_
        exact Steps.refl _)
      have ek : k = cs.length := by omega
      subst ek
      exact ⟨T, _, NN, X, eT, c3⟩
    | succ n ih =>
      intro k T locs hn hkl NN X eT cc
      have c4 : SS p e below S0 (T.setTop (mkF m 22 #[vi (own_hk cs k), vr tx, vi 0, vi (Int32.ofNat cs.length), vi (Int32.ofNat cs.length), vi (Int32.ofNat k)] [(.int (Int32.ofNat k)), (.ref tx), (.int ((31 : Int32) * (own_hk cs k)))])) := cc.trans (by
        show SS p e below (T.setTop (mkF m 8 #[vi (own_hk cs k), vr tx, vi 0, vi (Int32.ofNat cs.length), vi (Int32.ofNat cs.length), vi (Int32.ofNat k)] [])) _
        refine XS.iload X.here hx rfl (hb hby D0_8) rfl ?_
        refine XS.iload X.here hx rfl (hb hby D0_10) rfl ?_
        refine XS.icmpNo X.here hx rfl (hb hby D0_12) rfl (tlt ((own_ofN_lt (by omega) (by omega)).mpr (by omega) : (Int32.ofNat k) < (Int32.ofNat cs.length))).2.1 ?_
        refine XS.bipush X.here hx rfl (hb hby D0_15) ?_
        refine XS.iloadN X.here hx rfl (hb hby D0_17) rfl ?_
        refine XS.imul X.here hx rfl (hb hby D0_18) rfl ?_
        refine XS.aloadN X.here hx rfl (hb hby D0_19) rfl rfl ?_
        refine XS.iload X.here hx rfl (hb hby D0_20) rfl ?_
        exact Steps.refl _)
      have hk : k < cs.length := by omega
      obtain ⟨cl5, Ar5, -, S5, -, Ha5, -⟩ := id Vx
      have hin5 := inb_of (j := Int32.ofNat k) S5 (own_idx (m := cs.length) hk (by omega))
      have hat5 := Ha5.at hin5 (own_getb hk (by omega))
      have c6 : SS p e below S0 (T.setTop (mkF m 27 #[vi (own_hk cs k), vr tx, vi 0, vi (Int32.ofNat cs.length), vi (Int32.ofNat cs.length), vi (Int32.ofNat k)] [(.int (((cs.getD k 0).toInt8.toInt32) &&& (255 : Int32))), (.int ((31 : Int32) * (own_hk cs k)))])) := c4.trans (by
        show SS p e below (T.setTop (mkF m 22 #[vi (own_hk cs k), vr tx, vi 0, vi (Int32.ofNat cs.length), vi (Int32.ofNat cs.length), vi (Int32.ofNat k)] [(.int (Int32.ofNat k)), (.ref tx), (.int ((31 : Int32) * (own_hk cs k)))])) _
        refine X.baloadBytes hx (j := (Int32.ofNat k)) (v := (.int ((cs.getD k 0).toInt8.toInt32))) (by rw [eT]; exact Ar5.1) (State.isArrayOf_alike hZ.alike Ar5.2.1) Ar5.2.2 hin5 hat5 (g := (mkF m 22 #[vi (own_hk cs k), vr tx, vi 0, vi (Int32.ofNat cs.length), vi (Int32.ofNat cs.length), vi (Int32.ofNat k)] [(.int (Int32.ofNat k)), (.ref tx), (.int ((31 : Int32) * (own_hk cs k)))])) rfl rfl (hb hby D0_22) _ ?_
        refine XS.sipush X.here hx rfl (hb hby D0_23) ?_
        refine XS.iand X.here hx rfl (hb hby D0_26) rfl ?_
        exact Steps.refl _)
      have c8 := own_get8 h8 hk
      have em : (cs.getD k 0).toInt8.toInt32 &&& (255 : Int32) = cs.getD k 0 := StrChars.lo8_mask c8.1 c8.2
      rw [em] at c6
      have c7 : SS p e below S0 (T.setTop (mkF m 8 #[vi (((31 : Int32) * (own_hk cs k)) + (cs.getD k 0)), vr tx, vi 0, vi (Int32.ofNat cs.length), vi (Int32.ofNat cs.length), vi ((Int32.ofNat k) + (1 : Int32))] [])) := c6.trans (by
        show SS p e below (T.setTop (mkF m 27 #[vi (own_hk cs k), vr tx, vi 0, vi (Int32.ofNat cs.length), vi (Int32.ofNat cs.length), vi (Int32.ofNat k)] [(.int (cs.getD k 0)), (.int ((31 : Int32) * (own_hk cs k)))])) _
        refine XS.iadd X.here hx rfl (hb hby D0_27) rfl ?_
        refine XS.istoreN X.here hx rfl (hb hby D0_28) rfl (l' := #[vi (((31 : Int32) * (own_hk cs k)) + (cs.getD k 0)), vr tx, vi 0, vi (Int32.ofNat cs.length), vi (Int32.ofNat cs.length), vi (Int32.ofNat k)]) rfl ?_
        refine XS.iinc X.here hx rfl (hb hby D0_29) rfl (l' := #[vi (((31 : Int32) * (own_hk cs k)) + (cs.getD k 0)), vr tx, vi 0, vi (Int32.ofNat cs.length), vi (Int32.ofNat cs.length), vi ((Int32.ofNat k) + (1 : Int32))]) rfl ?_
        refine XS.goto X.here hx rfl (pc0 := 32) (pc' := 8) rfl (hb hby D0_32) (by decide) (by decide) ?_
        exact Steps.refl _)
      have e1 : Int32.ofNat k + (1 : Int32) = Int32.ofNat (k + 1) := (inc_ofNat k).symm
      have e2 : (31 : Int32) * own_hk cs k + cs.getD k 0 = own_hk cs (k + 1) := (own_hk1 hk).symm
      rw [e1, e2] at c7
      exact ih (k + 1) _ _ (by omega) (by omega) NN X eT c7
  obtain ⟨T9, l9, N9, X9, e9, c9⟩ := lp _ 0 _ _ rfl (Nat.zero_le _) N0 X0 e0 c2
  have c8 : SS p e below S0 (T9.setTop (mkF m 36 #[vi (own_hk cs cs.length), vr tx, vi 0, vi (Int32.ofNat cs.length), vi (Int32.ofNat cs.length), vi (Int32.ofNat cs.length)] [(.int (own_hk cs cs.length))])) := c9.trans (by
    show SS p e below (T9.setTop (mkF m 35 #[vi (own_hk cs cs.length), vr tx, vi 0, vi (Int32.ofNat cs.length), vi (Int32.ofNat cs.length), vi (Int32.ofNat cs.length)] [])) _
    refine XS.iloadN X9.here hx rfl (hb hby D0_35) rfl ?_
    exact Steps.refl _)
  obtain ⟨fs, hr, hrun, hended, hW, hsame⟩ := X9.leave (v := some (.int (own_hk cs cs.length))) (fun h => by rw [Bd.returns] at h; cases h)
  refine ⟨_, _, c8.trans (retOut X9 hx Bd.returns rfl (Or.inl ⟨rfl, by simp, _, rfl⟩) (hb hby D0_36) hr), hrun, hended, _, _, rfl, ?_, ⟨_, rfl⟩, hW, hsame.mono (by first | decide | exact Nat.le_of_ble_eq_true rfl) (by first | decide | exact Nat.le_of_ble_eq_true rfl)⟩
  show QInt Z (own_hash cs) h0 n0 _ T9.heap _
  rw [e9]
  exact ⟨rfl, N9, rfl⟩

theorem D1_0 : decode jdk_48_method_4_code 0 = .ok (.iload 4, 2) := by decide +kernel
theorem D1_2 : decode jdk_48_method_4_code 2 = .ok (.tableswitch 127 4 10 #[42, 55, 127, 127, 88, 101, 114], 42) := by decide +kernel
theorem D1_44 : decode jdk_48_method_4_code 44 = .ok (.iload_n 3, 1) := by decide +kernel
theorem D1_45 : decode jdk_48_method_4_code 45 = .ok (.aload_n 0, 1) := by decide +kernel
theorem D1_46 : decode jdk_48_method_4_code 46 = .ok (.checkcast 60, 3) := by decide +kernel
theorem D1_49 : decode jdk_48_method_4_code 49 = .ok (.iload_n 1, 1) := by decide +kernel
theorem D1_50 : decode jdk_48_method_4_code 50 = .ok (.iload_n 2, 1) := by decide +kernel
theorem pd_oIaBIIcI : parseMethodDescriptor "(I[BII)I" = some ⟨[.int, (.array .byte), .int, .int], some .int⟩ := by decide +kernel
theorem D1_51 : decode jdk_48_method_4_code 51 = .ok (.invokestatic 62, 3) := by decide +kernel
theorem D1_54 : decode jdk_48_method_4_code 54 = .ok (.goto 103, 3) := by decide +kernel
theorem D1_157 : decode jdk_48_method_4_code 157 = .ok (.ireturn, 1) := by decide +kernel
theorem ef_rmVec (m : MethodId) (x0 : Addr) (x1 : Int32) (x2 : Int32) (x3 : Int32) (x4 : Int32) : entryFrame m #[(.ref x0), (.int x1), (.int x2), (.int x3), (.int x4)] 5 = mkF m 0 #[.val (.ref x0), .val (.int x1), .val (.int x2), .val (.int x3), .val (.int x4)] [] := by first | (simp [entryFrame, mkF, argsToLocals, Value.category]; done) | rfl
set_option maxRecDepth 65536 in
set_option maxHeartbeats 40000000 in
theorem rmVec (l : Launch) (Z : State) (a0 : Array Value) (hw : ∀ d ∈ tables_1, d.before a0 Z = true) (ws : List Jvm.Cond) (tx : Addr) (kx : ClassId) (cs : List Int32) (h0 : Heap) (n0 : Nat) (Z0 : n0 ≤ h0.size) (Vx : Arv Z h0 tx kx .byte (Int32.ofNat cs.length) ((cs.map (fun c => c.toInt8.toInt32)).map Value.int) (.int 0)) (h8 : ∀ ch ∈ cs, C8 ch) (hl : cs.length ≤ 4000) (fk : Z.vm.findClass "[B" = some kx) :
    MetFree l (⟨"jdk/internal/util/ArraysSupport", "vectorizedHashCode", "(Ljava/lang/Object;IIII)I"⟩ : MethodName) (head1 (Jvm.Cond.code (⟨"jdk/internal/util/ArraysSupport", "vectorizedHashCode", "(Ljava/lang/Object;IIII)I"⟩ : MethodName) jdk_48_method_4_code 5 (some .int) :: ws) ({ frames := 1, cells := 0, slots := 0, locals := 17 } : Room)) (fun aa U => aa = #[(.ref tx), (.int 0), (.int (Int32.ofNat cs.length)), (.int 0), (.int 4)] ∧ Z.Warmed39 U.vm ∧ U.heap = h0) (fun _ _ _ _ _ => True) (fun _ U o U' => ∃ v L, o = .returned v ∧ QInt Z (own_hash cs) h0 n0 v U'.heap L ∧ FrameEnd U o U' L ({ frames := 1, cells := 0, slots := 0, locals := 17 } : Room).cells ({ frames := 1, cells := 0, slots := 0, locals := 17 } : Room).slots) := by
  refine MetFree.of_bodySF (plainFor_of_name pn_jdk_internal_util_ArraysSupport) hisR ?_
  intro p e s m args below meth c s₁ Bd hml0 hP hK
  obtain ⟨rfl, hZ, hh⟩ := hP
  have hx := Bd.exec
  have hby := Bd.bytes
  have hml : c.maxLocals = 5 := hml0
  have hown : s.vm.findClass "jdk/internal/util/ArraysSupport" = some m.cls := findClass_of_methodNamed Bd.named
  have hnm := (name_of_methodNamed Bd.named Bd.method).1
  have X0 : Stand p l e ({ frames := 1, cells := 0, slots := 0, locals := 17 } : Room) s m #[(.ref tx), (.int 0), (.int (Int32.ofNat cs.length)), (.int 0), (.int 4)] below meth c s₁ [] 0 0 := Stand.of_body Bd
  have e0 : s₁.heap = h0 := by rw [← hh, Bd.state]; rfl
  have N0 := Fr.nil n0
  have K0 := Keep.refl h0 []
  obtain ⟨S0, hS0⟩ : ∃ z, z = s₁.setTop (entryFrame m #[(.ref tx), (.int 0), (.int (Int32.ofNat cs.length)), (.int 0), (.int 4)] 5) := ⟨_, rfl⟩
  rw [← hS0]
  have c0 : SS p e below S0 (s₁.setTop (mkF m 0 #[vr tx, vi 0, vi (Int32.ofNat cs.length), vi 0, vi 4] [])) := by
    rw [hS0]; exact castTop (ef_rmVec m tx (0 : Int32) (Int32.ofNat cs.length) (0 : Int32) (4 : Int32)) (Steps.refl _)
  have c1 : SS p e below S0 (s₁.setTop (mkF m 46 #[vr tx, vi 0, vi (Int32.ofNat cs.length), vi 0, vi 4] [(.ref tx), (.int 0)])) := c0.trans (by
    show SS p e below (s₁.setTop (mkF m 0 #[vr tx, vi 0, vi (Int32.ofNat cs.length), vi 0, vi 4] [])) _
    refine XS.iload X0.here hx rfl (hb hby D1_0) rfl ?_
    refine XS.tswIn X0.here hx rfl (pc0 := 2) (pc' := 44) rfl (hb hby D1_2) rfl (by decide) (o := 42) rfl (by decide) (by decide) ?_
    refine XS.iloadN X0.here hx rfl (hb hby D1_44) rfl ?_
    refine XS.aloadN X0.here hx rfl (hb hby D1_45) rfl rfl ?_
    exact Steps.refl _)
  obtain ⟨T2, X2, e2, st2⟩ := castY X0 hx hZ hown (ww hw 216 rfl) e0 (Ins.of_exa (own_exaB Vx fk) (ww hw 217 rfl)) (g := (mkF m 46 #[vr tx, vi 0, vi (Int32.ofNat cs.length), vi 0, vi 4] [(.ref tx), (.int 0)])) rfl rfl (hb hby D1_46)
  have c3 : SS p e below S0 (T2.setTop (mkF m 49 #[vr tx, vi 0, vi (Int32.ofNat cs.length), vi 0, vi 4] [(.ref tx), (.int 0)])) := c1.trans (st2 _ (Steps.refl _))
  have c4 : SS p e below S0 (T2.setTop (mkF m 51 #[vr tx, vi 0, vi (Int32.ofNat cs.length), vi 0, vi 4] [(.int (Int32.ofNat cs.length)), (.int 0), (.ref tx), (.int 0)])) := c3.trans (by
    show SS p e below (T2.setTop (mkF m 49 #[vr tx, vi 0, vi (Int32.ofNat cs.length), vi 0, vi 4] [(.ref tx), (.int 0)])) _
    refine XS.iloadN X2.here hx rfl (hb hby D1_49) rfl ?_
    refine XS.iloadN X2.here hx rfl (hb hby D1_50) rfl ?_
    exact Steps.refl _)
  obtain ⟨_, _, ⟨T5, L5, kk5, nn5⟩, -, X5, ⟨Lc5, hQ5, l5, y5, z5⟩, st5⟩ := Jvm.LawKit.callS X2 hx (y := (⟨"jdk/internal/util/ArraysSupport", "signedHashCode", "(I[BII)I"⟩ : MethodName)) hown (mvT hZ (ww hw 218 rfl)) (mvT hZ (ww hw 219 rfl)) (mvT hZ (ww hw 214 rfl)) (mvT hZ (ww hw 220 rfl)) (by decide) (backOf (W := 0) (rmSgn l Z a0 hw [] tx kx cs h0 n0 Z0 Vx h8 hl) hZ (ww hw 220 rfl) (ww hw 214 rfl) (by decide) (by decide)) (g := (mkF m 51 #[vr tx, vi 0, vi (Int32.ofNat cs.length), vi 0, vi 4] [(.int (Int32.ofNat cs.length)), (.int 0), (.ref tx), (.int 0)])) rfl (by rw [hml]; rfl) (argsL := [(.int 0), (.ref tx), (.int 0), (.int (Int32.ofNat cs.length))]) (rest := []) (lenOf pd_oIaBIIcI rfl) rfl (by show 2 * 0 + _ ≤ _; exact Nat.le_of_eq rfl) (hb hby D1_51) (fun _ _ => ⟨rfl, e2, (by decide : 0 + 0 ≤ _), (by decide : 0 + 0 ≤ _)⟩)
  dsimp only [Pt.U, Pt.locs, Pt.cells, Pt.slots] at X5 l5 y5 z5 st5 hQ5
  subst l5 y5 z5
  obtain ⟨rfl, Nq5, eq5⟩ := hQ5
  have c6 : SS p e below S0 (T5.setTop (mkF m 54 #[vr tx, vi 0, vi (Int32.ofNat cs.length), vi 0, vi 4] [(.int (own_hash cs))])) := c4.trans (st5 _ (Steps.refl _))
  have N5 := Fr.app N0 Nq5
  have c7 : SS p e below S0 (T5.setTop (mkF m 157 #[vr tx, vi 0, vi (Int32.ofNat cs.length), vi 0, vi 4] [(.int (own_hash cs))])) := c6.trans (by
    show SS p e below (T5.setTop (mkF m 54 #[vr tx, vi 0, vi (Int32.ofNat cs.length), vi 0, vi 4] [(.int (own_hash cs))])) _
    refine XS.goto X5.here hx rfl (pc0 := 54) (pc' := 157) rfl (hb hby D1_54) (by decide) (by decide) ?_
    exact Steps.refl _)
  obtain ⟨fs, hr, hrun, hended, hW, hsame⟩ := X5.leave (v := some (.int (own_hash cs))) (fun h => by rw [Bd.returns] at h; cases h)
  refine ⟨_, _, c7.trans (retOut X5 hx Bd.returns rfl (Or.inl ⟨rfl, by simp, _, rfl⟩) (hb hby D1_157) hr), hrun, hended, _, _, rfl, ?_, ⟨_, rfl⟩, hW, hsame.mono (by first | decide | exact Nat.le_of_ble_eq_true rfl) (by first | decide | exact Nat.le_of_ble_eq_true rfl)⟩
  show QInt Z (own_hash cs) h0 n0 _ T5.heap _
  rw [eq5]
  exact ⟨rfl, N5, rfl⟩

theorem own_miss {n : Nat} (h : 2 ≤ n) (h4 : n ≤ 4000) : (#[((0 : Int), (26 : Int)), (1, 30)] : Array (Int × Int)).find? (·.1 == (Int32.ofNat n).toInt) = none := by
  rw [own_ofN (by omega)]
  exact find_miss (by
    intro p hp
    simp at hp
    rcases hp with rfl | rfl
    · show (0 : Int) ≠ n; omega
    · show (1 : Int) ≠ n; omega)

theorem D2_0 : decode jdk_43_method_21_code 0 = .ok (.aload_n 0, 1) := by decide +kernel
theorem D2_1 : decode jdk_43_method_21_code 1 = .ok (.arraylength, 1) := by decide +kernel
theorem D2_2 : decode jdk_43_method_21_code 2 = .ok (.lookupswitch 40 #[(0, 26), (1, 30)], 26) := by decide +kernel
theorem D2_28 : decode jdk_43_method_21_code 28 = .ok (.iconst 0, 1) := by decide +kernel
theorem D2_29 : decode jdk_43_method_21_code 29 = .ok (.goto 22, 3) := by decide +kernel
theorem D2_51 : decode jdk_43_method_21_code 51 = .ok (.ireturn, 1) := by decide +kernel
theorem D2_32 : decode jdk_43_method_21_code 32 = .ok (.aload_n 0, 1) := by decide +kernel
theorem D2_33 : decode jdk_43_method_21_code 33 = .ok (.iconst 0, 1) := by decide +kernel
theorem D2_34 : decode jdk_43_method_21_code 34 = .ok (.baload, 1) := by decide +kernel
theorem D2_35 : decode jdk_43_method_21_code 35 = .ok (.sipush 255, 3) := by decide +kernel
theorem D2_38 : decode jdk_43_method_21_code 38 = .ok (.iand, 1) := by decide +kernel
theorem D2_39 : decode jdk_43_method_21_code 39 = .ok (.goto 12, 3) := by decide +kernel
theorem D2_42 : decode jdk_43_method_21_code 42 = .ok (.aload_n 0, 1) := by decide +kernel
theorem D2_43 : decode jdk_43_method_21_code 43 = .ok (.iconst 0, 1) := by decide +kernel
theorem D2_44 : decode jdk_43_method_21_code 44 = .ok (.aload_n 0, 1) := by decide +kernel
theorem D2_45 : decode jdk_43_method_21_code 45 = .ok (.arraylength, 1) := by decide +kernel
theorem D2_46 : decode jdk_43_method_21_code 46 = .ok (.iconst 0, 1) := by decide +kernel
theorem D2_47 : decode jdk_43_method_21_code 47 = .ok (.iconst 4, 1) := by decide +kernel
theorem pd_oLjavaslangsObjecteIIIIcI : parseMethodDescriptor "(Ljava/lang/Object;IIII)I" = some ⟨[(.object "java/lang/Object"), .int, .int, .int, .int], some .int⟩ := by decide +kernel
theorem D2_48 : decode jdk_43_method_21_code 48 = .ok (.invokestatic 84, 3) := by decide +kernel
theorem pn_java_lang_StringLatin1 : plainName "java/lang/StringLatin1" = true := by first | (simp [plainName, overriddenIn]; done) | decide +kernel
theorem ef_rmLH (m : MethodId) (x0 : Addr) : entryFrame m #[(.ref x0)] 1 = mkF m 0 #[.val (.ref x0)] [] := by first | (simp [entryFrame, mkF, argsToLocals, Value.category]; done) | rfl
set_option maxRecDepth 65536 in
set_option maxHeartbeats 40000000 in
theorem rmLH (l : Launch) (Z : State) (a0 : Array Value) (hw : ∀ d ∈ tables_1, d.before a0 Z = true) (ws : List Jvm.Cond) (tx : Addr) (kx : ClassId) (cs : List Int32) (h0 : Heap) (n0 : Nat) (Z0 : n0 ≤ h0.size) (Vx : Arv Z h0 tx kx .byte (Int32.ofNat cs.length) ((cs.map (fun c => c.toInt8.toInt32)).map Value.int) (.int 0)) (h8 : ∀ ch ∈ cs, C8 ch) (hl : cs.length ≤ 4000) (fk : 2 ≤ cs.length → Z.vm.findClass "[B" = some kx) :
    MetFree l (⟨"java/lang/StringLatin1", "hashCode", "([B)I"⟩ : MethodName) (head1 (Jvm.Cond.code (⟨"java/lang/StringLatin1", "hashCode", "([B)I"⟩ : MethodName) jdk_43_method_21_code 1 (some .int) :: ws) ({ frames := 2, cells := 0, slots := 0, locals := 33 } : Room)) (fun aa U => aa = #[(.ref tx)] ∧ Z.Warmed39 U.vm ∧ U.heap = h0) (fun _ _ _ _ _ => True) (fun _ U o U' => ∃ v L, o = .returned v ∧ QInt Z (own_hash cs) h0 n0 v U'.heap L ∧ FrameEnd U o U' L ({ frames := 2, cells := 0, slots := 0, locals := 33 } : Room).cells ({ frames := 2, cells := 0, slots := 0, locals := 33 } : Room).slots) := by
  refine MetFree.of_bodySF (plainFor_of_name pn_java_lang_StringLatin1) hisR ?_
  intro p e s m args below meth c s₁ Bd hml0 hP hK
  obtain ⟨rfl, hZ, hh⟩ := hP
  have hx := Bd.exec
  have hby := Bd.bytes
  have hml : c.maxLocals = 1 := hml0
  have hown : s.vm.findClass "java/lang/StringLatin1" = some m.cls := findClass_of_methodNamed Bd.named
  have hnm := (name_of_methodNamed Bd.named Bd.method).1
  have X0 : Stand p l e ({ frames := 2, cells := 0, slots := 0, locals := 33 } : Room) s m #[(.ref tx)] below meth c s₁ [] 0 0 := Stand.of_body Bd
  have e0 : s₁.heap = h0 := by rw [← hh, Bd.state]; rfl
  have N0 := Fr.nil n0
  have K0 := Keep.refl h0 []
  obtain ⟨S0, hS0⟩ : ∃ z, z = s₁.setTop (entryFrame m #[(.ref tx)] 1) := ⟨_, rfl⟩
  rw [← hS0]
  have c0 : SS p e below S0 (s₁.setTop (mkF m 0 #[vr tx] [])) := by
    rw [hS0]; exact castTop (ef_rmLH m tx) (Steps.refl _)
  have c1 : SS p e below S0 (s₁.setTop (mkF m 1 #[vr tx] [(.ref tx)])) := c0.trans (by
    show SS p e below (s₁.setTop (mkF m 0 #[vr tx] [])) _
    refine XS.aloadN X0.here hx rfl (hb hby D2_0) rfl rfl ?_
    exact Steps.refl _)
  obtain ⟨cl2, Ar2, -, S2, Nn2, -, -⟩ := id Vx
  have c3 : SS p e below S0 (s₁.setTop (mkF m 2 #[vr tx] [(.int (Int32.ofNat cs.length))])) := c1.trans (by
    show SS p e below (s₁.setTop (mkF m 1 #[vr tx] [(.ref tx)])) _
    refine X0.arraylength hx (by rw [e0]; exact Ar2.1) (State.isArrayOf_alike hZ.alike Ar2.2.1) (g := (mkF m 1 #[vr tx] [(.ref tx)])) rfl rfl (hb hby D2_1) _ ?_
    rw [len_of S2 Nn2]
    exact Steps.refl _)
  rcases (by omega : cs.length = 0 ∨ cs.length = 1 ∨ 2 ≤ cs.length) with e3 | e3 | e3
  · rw [(show Int32.ofNat cs.length = (0 : Int32) by rw [e3]; rfl)] at c3
    have c4 : SS p e below S0 (s₁.setTop (mkF m 51 #[vr tx] [(.int 0)])) := c3.trans (by
      show SS p e below (s₁.setTop (mkF m 2 #[vr tx] [(.int 0)])) _
      refine X0.lookupswitchHit hx (g := (mkF m 2 #[vr tx] [(.int 0)])) rfl rfl (hb hby D2_2) (by decide) (a := 0) (off := 26) (by decide) (by show (0 : Int) ≤ ((2 : Nat) : Int) + 26; decide) _ ?_
      show SS p e below (s₁.setTop (mkF m 28 #[vr tx] [])) _
      refine XS.iconst X0.here hx rfl (hb hby D2_28) ?_
      refine XS.goto X0.here hx rfl (pc0 := 29) (pc' := 51) rfl (hb hby D2_29) (by decide) (by decide) ?_
      exact Steps.refl _)
    obtain ⟨fs, hr, hrun, hended, hW, hsame⟩ := X0.leave (v := some (.int 0)) (fun h => by rw [Bd.returns] at h; cases h)
    refine ⟨_, _, c4.trans (retOut X0 hx Bd.returns rfl (Or.inl ⟨rfl, by simp, _, rfl⟩) (hb hby D2_51) hr), hrun, hended, _, _, rfl, ?_, ⟨_, rfl⟩, hW, hsame.mono (by first | decide | exact Nat.le_of_ble_eq_true rfl) (by first | decide | exact Nat.le_of_ble_eq_true rfl)⟩
    show QInt Z (own_hash cs) h0 n0 _ s₁.heap _
    rw [e0]
    exact ⟨by rw [own_h0 e3], N0, rfl⟩
  · rw [(show Int32.ofNat cs.length = (1 : Int32) by rw [e3]; rfl)] at c3
    have c5 : SS p e below S0 (s₁.setTop (mkF m 34 #[vr tx] [(.int 0), (.ref tx)])) := c3.trans (by
      show SS p e below (s₁.setTop (mkF m 2 #[vr tx] [(.int 1)])) _
      refine X0.lookupswitchHit hx (g := (mkF m 2 #[vr tx] [(.int 1)])) rfl rfl (hb hby D2_2) (by decide) (a := 1) (off := 30) (by decide) (by show (0 : Int) ≤ ((2 : Nat) : Int) + 30; decide) _ ?_
      show SS p e below (s₁.setTop (mkF m 32 #[vr tx] [])) _
      refine XS.aloadN X0.here hx rfl (hb hby D2_32) rfl rfl ?_
      refine XS.iconst X0.here hx rfl (hb hby D2_33) ?_
      exact Steps.refl _)
    have hk : 0 < cs.length := by omega
    obtain ⟨cl6, Ar6, -, S6, -, Ha6, -⟩ := id Vx
    have hin6 := inb_of (j := (0 : Int32)) S6 (own_idx (a := 0) (m := cs.length) hk (by omega))
    have hat6 := Ha6.at hin6 (own_getb (k := 0) hk (by omega))
    have c7 : SS p e below S0 (s₁.setTop (mkF m 39 #[vr tx] [(.int (((cs.getD 0 0).toInt8.toInt32) &&& (255 : Int32)))])) := c5.trans (by
      show SS p e below (s₁.setTop (mkF m 34 #[vr tx] [(.int 0), (.ref tx)])) _
      refine X0.baloadBytes hx (j := (0 : Int32)) (v := (.int ((cs.getD 0 0).toInt8.toInt32))) (by rw [e0]; exact Ar6.1) (State.isArrayOf_alike hZ.alike Ar6.2.1) Ar6.2.2 hin6 hat6 (g := (mkF m 34 #[vr tx] [(.int 0), (.ref tx)])) rfl rfl (hb hby D2_34) _ ?_
      refine XS.sipush X0.here hx rfl (hb hby D2_35) ?_
      refine XS.iand X0.here hx rfl (hb hby D2_38) rfl ?_
      exact Steps.refl _)
    have c8 := own_get8 h8 hk
    have em : (cs.getD 0 0).toInt8.toInt32 &&& (255 : Int32) = cs.getD 0 0 := StrChars.lo8_mask c8.1 c8.2
    rw [em] at c7
    have c8 : SS p e below S0 (s₁.setTop (mkF m 51 #[vr tx] [(.int (cs.getD 0 0))])) := c7.trans (by
      show SS p e below (s₁.setTop (mkF m 39 #[vr tx] [(.int (cs.getD 0 0))])) _
      refine XS.goto X0.here hx rfl (pc0 := 39) (pc' := 51) rfl (hb hby D2_39) (by decide) (by decide) ?_
      exact Steps.refl _)
    obtain ⟨fs, hr, hrun, hended, hW, hsame⟩ := X0.leave (v := some (.int (cs.getD 0 0))) (fun h => by rw [Bd.returns] at h; cases h)
    refine ⟨_, _, c8.trans (retOut X0 hx Bd.returns rfl (Or.inl ⟨rfl, by simp, _, rfl⟩) (hb hby D2_51) hr), hrun, hended, _, _, rfl, ?_, ⟨_, rfl⟩, hW, hsame.mono (by first | decide | exact Nat.le_of_ble_eq_true rfl) (by first | decide | exact Nat.le_of_ble_eq_true rfl)⟩
    show QInt Z (own_hash cs) h0 n0 _ s₁.heap _
    rw [e0]
    exact ⟨by rw [own_h1 e3], N0, rfl⟩
  · have c9 : SS p e below S0 (s₁.setTop (mkF m 45 #[vr tx] [(.ref tx), (.int 0), (.ref tx)])) := c3.trans (by
      show SS p e below (s₁.setTop (mkF m 2 #[vr tx] [(.int (Int32.ofNat cs.length))])) _
      refine X0.lookupswitchMiss hx (g := (mkF m 2 #[vr tx] [(.int (Int32.ofNat cs.length))])) rfl rfl (hb hby D2_2) (by decide) (own_miss e3 hl) (by show (0 : Int) ≤ ((2 : Nat) : Int) + 40; decide) _ ?_
      show SS p e below (s₁.setTop (mkF m 42 #[vr tx] [])) _
      refine XS.aloadN X0.here hx rfl (hb hby D2_42) rfl rfl ?_
      refine XS.iconst X0.here hx rfl (hb hby D2_43) ?_
      refine XS.aloadN X0.here hx rfl (hb hby D2_44) rfl rfl ?_
      exact Steps.refl _)
    obtain ⟨cl10, Ar10, -, S10, Nn10, -, -⟩ := id Vx
    have c11 : SS p e below S0 (s₁.setTop (mkF m 48 #[vr tx] [(.int 4), (.int 0), (.int (Int32.ofNat cs.length)), (.int 0), (.ref tx)])) := c9.trans (by
      show SS p e below (s₁.setTop (mkF m 45 #[vr tx] [(.ref tx), (.int 0), (.ref tx)])) _
      refine X0.arraylength hx (by rw [e0]; exact Ar10.1) (State.isArrayOf_alike hZ.alike Ar10.2.1) (g := (mkF m 45 #[vr tx] [(.ref tx), (.int 0), (.ref tx)])) rfl rfl (hb hby D2_45) _ ?_
      rw [len_of S10 Nn10]
      refine XS.iconst X0.here hx rfl (hb hby D2_46) ?_
      refine XS.iconst X0.here hx rfl (hb hby D2_47) ?_
      exact Steps.refl _)
    obtain ⟨_, _, ⟨T12, L12, kk12, nn12⟩, -, X12, ⟨Lc12, hQ12, l12, y12, z12⟩, st12⟩ := Jvm.LawKit.callS X0 hx (y := (⟨"jdk/internal/util/ArraysSupport", "vectorizedHashCode", "(Ljava/lang/Object;IIII)I"⟩ : MethodName)) hown (mvT hZ (ww hw 212 rfl)) (mvT hZ (ww hw 213 rfl)) (mvT hZ (ww hw 214 rfl)) (mvT hZ (ww hw 215 rfl)) (by decide) (backOf (W := 0) (rmVec l Z a0 hw [] tx kx cs h0 n0 Z0 Vx h8 hl (fk e3)) hZ (ww hw 215 rfl) (ww hw 214 rfl) (by decide) (by decide)) (g := (mkF m 48 #[vr tx] [(.int 4), (.int 0), (.int (Int32.ofNat cs.length)), (.int 0), (.ref tx)])) rfl (by rw [hml]; rfl) (argsL := [(.ref tx), (.int 0), (.int (Int32.ofNat cs.length)), (.int 0), (.int 4)]) (rest := []) (lenOf pd_oLjavaslangsObjecteIIIIcI rfl) rfl (by show 2 * 0 + _ ≤ _; exact Nat.le_of_eq rfl) (hb hby D2_48) (fun _ _ => ⟨rfl, e0, (by decide : 0 + 0 ≤ _), (by decide : 0 + 0 ≤ _)⟩)
    dsimp only [Pt.U, Pt.locs, Pt.cells, Pt.slots] at X12 l12 y12 z12 st12 hQ12
    subst l12 y12 z12
    obtain ⟨rfl, Nq12, eq12⟩ := hQ12
    have c13 : SS p e below S0 (T12.setTop (mkF m 51 #[vr tx] [(.int (own_hash cs))])) := c11.trans (st12 _ (Steps.refl _))
    have N12 := Fr.app N0 Nq12
    obtain ⟨fs, hr, hrun, hended, hW, hsame⟩ := X12.leave (v := some (.int (own_hash cs))) (fun h => by rw [Bd.returns] at h; cases h)
    refine ⟨_, _, c13.trans (retOut X12 hx Bd.returns rfl (Or.inl ⟨rfl, by simp, _, rfl⟩) (hb hby D2_51) hr), hrun, hended, _, _, rfl, ?_, ⟨_, rfl⟩, hW, hsame.mono (by first | decide | exact Nat.le_of_ble_eq_true rfl) (by first | decide | exact Nat.le_of_ble_eq_true rfl)⟩
    show QInt Z (own_hash cs) h0 n0 _ T12.heap _
    rw [eq12]
    exact ⟨rfl, N12, rfl⟩

theorem D3_0 : decode jdk_42_method_154_code 0 = .ok (.getstatic 38, 3) := by decide +kernel
theorem D3_3 : decode jdk_42_method_154_code 3 = .ok (.ifCond .eq 14, 3) := by decide +kernel
theorem D3_6 : decode jdk_42_method_154_code 6 = .ok (.aload_n 0, 1) := by decide +kernel
theorem D3_7 : decode jdk_42_method_154_code 7 = .ok (.getfield 15, 3) := by decide +kernel
theorem D3_10 : decode jdk_42_method_154_code 10 = .ok (.ifCond .ne 7, 3) := by decide +kernel
theorem D3_13 : decode jdk_42_method_154_code 13 = .ok (.iconst 1, 1) := by decide +kernel
theorem D3_14 : decode jdk_42_method_154_code 14 = .ok (.goto 4, 3) := by decide +kernel
theorem D3_18 : decode jdk_42_method_154_code 18 = .ok (.ireturn, 1) := by decide +kernel
theorem pn_java_lang_String : plainName "java/lang/String" = true := by first | (simp [plainName, overriddenIn]; done) | decide +kernel
theorem ef_rmIL (m : MethodId) (x0 : Addr) : entryFrame m #[(.ref x0)] 1 = mkF m 0 #[.val (.ref x0)] [] := by first | (simp [entryFrame, mkF, argsToLocals, Value.category]; done) | rfl
set_option maxRecDepth 65536 in
set_option maxHeartbeats 40000000 in
theorem rmIL (l : Launch) (Z : State) (a0 : Array Value) (hw : ∀ d ∈ tables_1, d.before a0 Z = true) (ws : List Jvm.Cond) (sx : Addr) (G1 : Int32) (h0 : Heap) (n0 : Nat) (Z0 : n0 ≤ h0.size) (Fc : Fld Z h0 sx "java/lang/String" "coder" "B" (.int 0)) (O2 : Sta Z Z.heap "java/lang/String" "COMPACT_STRINGS" "Z" (.int G1)) (P5 : ¬ G1 = 0) (X00 : Old Z n0 h0) :
    MetFree l (⟨"java/lang/String", "isLatin1", "()Z"⟩ : MethodName) (head1 (Jvm.Cond.code (⟨"java/lang/String", "isLatin1", "()Z"⟩ : MethodName) jdk_42_method_154_code 1 (some .boolean) :: ws) ({ frames := 0, cells := 0, slots := 0, locals := 0 } : Room)) (fun aa U => aa = #[(.ref sx)] ∧ Z.Warmed39 U.vm ∧ U.heap = h0) (fun _ _ _ _ _ => True) (fun _ U o U' => ∃ v L, o = .returned v ∧ QInt Z 1 h0 n0 v U'.heap L ∧ FrameEnd U o U' L ({ frames := 0, cells := 0, slots := 0, locals := 0 } : Room).cells ({ frames := 0, cells := 0, slots := 0, locals := 0 } : Room).slots) := by
  refine MetFree.of_bodySF (plainFor_of_name pn_java_lang_String) hisR ?_
  intro p e s m args below meth c s₁ Bd hml0 hP hK
  obtain ⟨rfl, hZ, hh⟩ := hP
  have hx := Bd.exec
  have hby := Bd.bytes
  have hml : c.maxLocals = 1 := hml0
  have hown : s.vm.findClass "java/lang/String" = some m.cls := findClass_of_methodNamed Bd.named
  have hnm := (name_of_methodNamed Bd.named Bd.method).1
  have X0 : Stand p l e ({ frames := 0, cells := 0, slots := 0, locals := 0 } : Room) s m #[(.ref sx)] below meth c s₁ [] 0 0 := Stand.of_body Bd
  have e0 : s₁.heap = h0 := by rw [← hh, Bd.state]; rfl
  have N0 := Fr.nil n0
  have K0 := Keep.refl h0 []
  obtain ⟨S0, hS0⟩ : ∃ z, z = s₁.setTop (entryFrame m #[(.ref sx)] 1) := ⟨_, rfl⟩
  rw [← hS0]
  have c0 : SS p e below S0 (s₁.setTop (mkF m 0 #[vr sx] [])) := by
    rw [hS0]; exact castTop (ef_rmIL m sx) (Steps.refl _)
  obtain ⟨T1, X1, e1, st1⟩ := getS2 X0 hx hZ hown (host := "") (Or.inl (ww hw 59 rfl)) Via.refl e0 (O2.ext X00.2) (g := (mkF m 0 #[vr sx] [])) rfl (hb hby D3_0)
  have c2 : SS p e below S0 (T1.setTop (mkF m 3 #[vr sx] [(.int G1)])) := c0.trans (st1 _ (Steps.refl _))
  have c3 : SS p e below S0 (T1.setTop (mkF m 7 #[vr sx] [(.ref sx)])) := c2.trans (by
    show SS p e below (T1.setTop (mkF m 3 #[vr sx] [(.int G1)])) _
    refine XS.ifNo X1.here hx rfl (hb hby D3_3) rfl ((if0 _ _).trans (feq P5).1) ?_
    refine XS.aloadN X1.here hx rfl (hb hby D3_6) rfl rfl ?_
    exact Steps.refl _)
  obtain ⟨T4, X4, e4, st4⟩ := getF X1 hx hZ hown (host := "") (Or.inl (ww hw 26 rfl)) Via.refl e1 Fc (g := (mkF m 7 #[vr sx] [(.ref sx)])) rfl rfl (hb hby D3_7)
  have c5 : SS p e below S0 (T4.setTop (mkF m 10 #[vr sx] [(.int 0)])) := c3.trans (st4 _ (Steps.refl _))
  have c6 : SS p e below S0 (T4.setTop (mkF m 18 #[vr sx] [(.int 1)])) := c5.trans (by
    show SS p e below (T4.setTop (mkF m 10 #[vr sx] [(.int 0)])) _
    refine XS.ifNo X4.here hx rfl (hb hby D3_10) rfl ((if0 _ _).trans (teq (by decide : ((0 : Int32) = (0 : Int32)))).2) ?_
    refine XS.iconst X4.here hx rfl (hb hby D3_13) ?_
    refine XS.goto X4.here hx rfl (pc0 := 14) (pc' := 18) rfl (hb hby D3_14) (by decide) (by decide) ?_
    exact Steps.refl _)
  obtain ⟨fs, hr, hrun, hended, hW, hsame⟩ := X4.leave (v := some (.int 1)) (fun h => by rw [Bd.returns] at h; cases h)
  refine ⟨_, _, c6.trans (retOut X4 hx Bd.returns rfl (Or.inl ⟨rfl, by simp, _, rfl⟩) (hb hby D3_18) hr), hrun, hended, _, _, rfl, ?_, ⟨_, rfl⟩, hW, hsame.mono (by first | decide | exact Nat.le_of_ble_eq_true rfl) (by first | decide | exact Nat.le_of_ble_eq_true rfl)⟩
  show QInt Z 1 h0 n0 _ T4.heap _
  rw [e4]
  exact ⟨rfl, N0, rfl⟩

def QHC (Z : State) (sx tx : Addr) (kx : ClassId) (cs : List Int32) (h0 : Heap) (n0 : Nat) (v : Option Value) (h : Heap) (L : List Loc) : Prop := v = some (.int (own_hash cs)) ∧ Fr n0 L ∧ Keep h0 h [sx] ∧ OStr Z h sx tx kx cs

theorem D4_0 : decode jdk_42_method_78_code 0 = .ok (.aload_n 0, 1) := by decide +kernel
theorem D4_1 : decode jdk_42_method_78_code 1 = .ok (.getfield 19, 3) := by decide +kernel
theorem D4_4 : decode jdk_42_method_78_code 4 = .ok (.istore_n 1, 1) := by decide +kernel
theorem D4_5 : decode jdk_42_method_78_code 5 = .ok (.iload_n 1, 1) := by decide +kernel
theorem D4_6 : decode jdk_42_method_78_code 6 = .ok (.ifCond .ne 52, 3) := by decide +kernel
theorem D4_9 : decode jdk_42_method_78_code 9 = .ok (.aload_n 0, 1) := by decide +kernel
theorem D4_10 : decode jdk_42_method_78_code 10 = .ok (.getfield 23, 3) := by decide +kernel
theorem D4_13 : decode jdk_42_method_78_code 13 = .ok (.ifCond .ne 45, 3) := by decide +kernel
theorem D4_16 : decode jdk_42_method_78_code 16 = .ok (.aload_n 0, 1) := by decide +kernel
theorem pd_ocZ : parseMethodDescriptor "()Z" = some ⟨[], some .boolean⟩ := by decide +kernel
theorem D4_17 : decode jdk_42_method_78_code 17 = .ok (.invokevirtual 492, 3) := by decide +kernel
theorem D4_20 : decode jdk_42_method_78_code 20 = .ok (.ifCond .eq 13, 3) := by decide +kernel
theorem D4_23 : decode jdk_42_method_78_code 23 = .ok (.aload_n 0, 1) := by decide +kernel
theorem D4_24 : decode jdk_42_method_78_code 24 = .ok (.getfield 9, 3) := by decide +kernel
theorem pd_oaBcI : parseMethodDescriptor "([B)I" = some ⟨[(.array .byte)], some .int⟩ := by decide +kernel
theorem D4_27 : decode jdk_42_method_78_code 27 = .ok (.invokestatic 628, 3) := by decide +kernel
theorem D4_30 : decode jdk_42_method_78_code 30 = .ok (.goto 10, 3) := by decide +kernel
theorem D4_40 : decode jdk_42_method_78_code 40 = .ok (.istore_n 1, 1) := by decide +kernel
theorem D4_41 : decode jdk_42_method_78_code 41 = .ok (.iload_n 1, 1) := by decide +kernel
theorem D4_42 : decode jdk_42_method_78_code 42 = .ok (.ifCond .ne 11, 3) := by decide +kernel
theorem D4_45 : decode jdk_42_method_78_code 45 = .ok (.aload_n 0, 1) := by decide +kernel
theorem D4_46 : decode jdk_42_method_78_code 46 = .ok (.iconst 1, 1) := by decide +kernel
theorem D4_47 : decode jdk_42_method_78_code 47 = .ok (.putfield 23, 3) := by decide +kernel
theorem D4_50 : decode jdk_42_method_78_code 50 = .ok (.goto 8, 3) := by decide +kernel
theorem D4_58 : decode jdk_42_method_78_code 58 = .ok (.iload_n 1, 1) := by decide +kernel
theorem D4_59 : decode jdk_42_method_78_code 59 = .ok (.ireturn, 1) := by decide +kernel
theorem D4_53 : decode jdk_42_method_78_code 53 = .ok (.aload_n 0, 1) := by decide +kernel
theorem D4_54 : decode jdk_42_method_78_code 54 = .ok (.iload_n 1, 1) := by decide +kernel
theorem D4_55 : decode jdk_42_method_78_code 55 = .ok (.putfield 19, 3) := by decide +kernel
theorem ef_rmHC (m : MethodId) (x0 : Addr) : entryFrame m #[(.ref x0)] 2 = mkF m 0 #[.val (.ref x0), .unset] [] := by first | (simp [entryFrame, mkF, argsToLocals, Value.category]; done) | rfl
set_option maxRecDepth 65536 in
set_option maxHeartbeats 40000000 in
theorem rmHC (l : Launch) (Z : State) (a0 : Array Value) (hw : ∀ d ∈ tables_1, d.before a0 Z = true) (ws : List Jvm.Cond) (sx tx : Addr) (kx : ClassId) (cs : List Int32) (G1 : Int32) (h0 : Heap) (n0 : Nat) (Z0 : n0 ≤ h0.size) (g_sx : n0 ≤ sx) (SH : OStrH Z h0 sx tx kx cs) (O2 : Sta Z Z.heap "java/lang/String" "COMPACT_STRINGS" "Z" (.int G1)) (P5 : ¬ G1 = 0) (X00 : Old Z n0 h0) :
    MetFree l (⟨"java/lang/String", "hashCode", "()I"⟩ : MethodName) (head1 (Jvm.Cond.code (⟨"java/lang/String", "hashCode", "()I"⟩ : MethodName) jdk_42_method_78_code 2 (some .int) :: ws) ({ frames := 3, cells := 0, slots := 0, locals := 45 } : Room)) (fun aa U => aa = #[(.ref sx)] ∧ Z.Warmed39 U.vm ∧ U.heap = h0) (fun _ _ _ _ _ => True) (fun _ U o U' => ∃ v L, o = .returned v ∧ QHC Z sx tx kx cs h0 n0 v U'.heap L ∧ FrameEnd U o U' L ({ frames := 3, cells := 0, slots := 0, locals := 45 } : Room).cells ({ frames := 3, cells := 0, slots := 0, locals := 45 } : Room).slots) := by
  refine MetFree.of_bodySF (plainFor_of_name pn_java_lang_String) hisR ?_
  intro p e s m args below meth c s₁ Bd hml0 hP hK
  obtain ⟨rfl, hZ, hh⟩ := hP
  have hx := Bd.exec
  have hby := Bd.bytes
  have hml : c.maxLocals = 2 := hml0
  have hown : s.vm.findClass "java/lang/String" = some m.cls := findClass_of_methodNamed Bd.named
  have hnm := (name_of_methodNamed Bd.named Bd.method).1
  have X0 : Stand p l e ({ frames := 3, cells := 0, slots := 0, locals := 45 } : Room) s m #[(.ref sx)] below meth c s₁ [] 0 0 := Stand.of_body Bd
  have e0 : s₁.heap = h0 := by rw [← hh, Bd.state]; rfl
  have N0 := Fr.nil n0
  have K0 := Keep.refl h0 [sx]
  obtain ⟨S0, hS0⟩ : ∃ z, z = s₁.setTop (entryFrame m #[(.ref sx)] 2) := ⟨_, rfl⟩
  rw [← hS0]
  have c0 : SS p e below S0 (s₁.setTop (mkF m 0 #[vr sx, .unset] [])) := by
    rw [hS0]; exact castTop (ef_rmHC m sx) (Steps.refl _)
  have c1 : SS p e below S0 (s₁.setTop (mkF m 1 #[vr sx, .unset] [(.ref sx)])) := c0.trans (by
    show SS p e below (s₁.setTop (mkF m 0 #[vr sx, .unset] [])) _
    refine XS.aloadN X0.here hx rfl (hb hby D4_0) rfl rfl ?_
    exact Steps.refl _)
  obtain ⟨T2, X2, e2, st2⟩ := getF X0 hx hZ hown (host := "") (Or.inl (ww hw 50 rfl)) Via.refl e0 SH.2.1 (g := (mkF m 1 #[vr sx, .unset] [(.ref sx)])) rfl rfl (hb hby D4_1)
  have c3 : SS p e below S0 (T2.setTop (mkF m 4 #[vr sx, .unset] [(.int 0)])) := c1.trans (st2 _ (Steps.refl _))
  have c4 : SS p e below S0 (T2.setTop (mkF m 10 #[vr sx, vi 0] [(.ref sx)])) := c3.trans (by
    show SS p e below (T2.setTop (mkF m 4 #[vr sx, .unset] [(.int 0)])) _
    refine XS.istoreN X2.here hx rfl (hb hby D4_4) rfl (l' := #[vr sx, vi 0]) rfl ?_
    refine XS.iloadN X2.here hx rfl (hb hby D4_5) rfl ?_
    refine XS.ifNo X2.here hx rfl (hb hby D4_6) rfl ((if0 _ _).trans (teq (by decide : ((0 : Int32) = (0 : Int32)))).2) ?_
    refine XS.aloadN X2.here hx rfl (hb hby D4_9) rfl rfl ?_
    exact Steps.refl _)
  obtain ⟨T5, X5, e5, st5⟩ := getF X2 hx hZ hown (host := "") (Or.inl (ww hw 52 rfl)) Via.refl e2 SH.2.2.1 (g := (mkF m 10 #[vr sx, vi 0] [(.ref sx)])) rfl rfl (hb hby D4_10)
  have c6 : SS p e below S0 (T5.setTop (mkF m 13 #[vr sx, vi 0] [(.int 0)])) := c4.trans (st5 _ (Steps.refl _))
  have c7 : SS p e below S0 (T5.setTop (mkF m 17 #[vr sx, vi 0] [(.ref sx)])) := c6.trans (by
    show SS p e below (T5.setTop (mkF m 13 #[vr sx, vi 0] [(.int 0)])) _
    refine XS.ifNo X5.here hx rfl (hb hby D4_13) rfl ((if0 _ _).trans (teq (by decide : ((0 : Int32) = (0 : Int32)))).2) ?_
    refine XS.aloadN X5.here hx rfl (hb hby D4_16) rfl rfl ?_
    exact Steps.refl _)
  obtain ⟨cq8, kq8, q8a, q8b, q8c⟩ := isOf hZ e5 SH.1.1
  obtain ⟨_, _, ⟨T8, L8, kk8, nn8⟩, -, X8, ⟨Lc8, hQ8, l8, y8, z8⟩, st8⟩ := X5.virtualBack hx (y := (⟨"java/lang/String", "isLatin1", "()Z"⟩ : MethodName)) (z := (⟨"java/lang/String", "isLatin1", "()Z"⟩ : MethodName)) hown (mvT hZ (ww hw 54 rfl)) (mvT hZ (ww hw 55 rfl)) (notFace_of_selects (args := #[]) (mvT hZ (ww hw 57 rfl))) (mvT hZ (ww hw 57 rfl)) (mvT hZ (ww hw 56 rfl)) (by decide) (backOf (W := 0) (rmIL l Z a0 hw [] sx G1 h0 n0 Z0 SH.1.2.2.1 O2 P5 X00) hZ (ww hw 58 rfl) (ww hw 7 rfl) (by decide) (by decide)) q8a q8c (g := (mkF m 17 #[vr sx, vi 0] [(.ref sx)])) rfl (by rw [hml]; rfl) (Steps.refl _) (argsL := []) (rest := []) (lenOf pd_ocZ rfl) rfl (by show 2 * 0 + _ ≤ _; exact Nat.le_of_eq rfl) (hb hby D4_17) (fun _ _ => ⟨rfl, e5, (by decide : 0 + 0 ≤ _), (by decide : 0 + 0 ≤ _)⟩)
  dsimp only [Pt.U, Pt.locs, Pt.cells, Pt.slots] at X8 l8 y8 z8 st8 hQ8
  subst l8 y8 z8
  obtain ⟨rfl, Nq8, eq8⟩ := hQ8
  have c9 : SS p e below S0 (T8.setTop (mkF m 20 #[vr sx, vi 0] [(.int 1)])) := c7.trans (st8)
  have N8 := Fr.app N0 Nq8
  have c10 : SS p e below S0 (T8.setTop (mkF m 24 #[vr sx, vi 0] [(.ref sx)])) := c9.trans (by
    show SS p e below (T8.setTop (mkF m 20 #[vr sx, vi 0] [(.int 1)])) _
    refine XS.ifNo X8.here hx rfl (hb hby D4_20) rfl ((if0 _ _).trans (feq (by decide : ¬ ((1 : Int32) = (0 : Int32)))).1) ?_
    refine XS.aloadN X8.here hx rfl (hb hby D4_23) rfl rfl ?_
    exact Steps.refl _)
  obtain ⟨T11, X11, e11, st11⟩ := getF X8 hx hZ hown (host := "") (Or.inl (ww hw 25 rfl)) Via.refl eq8 SH.1.2.1 (g := (mkF m 24 #[vr sx, vi 0] [(.ref sx)])) rfl rfl (hb hby D4_24)
  have c12 : SS p e below S0 (T11.setTop (mkF m 27 #[vr sx, vi 0] [(.ref tx)])) := c10.trans (st11 _ (Steps.refl _))
  obtain ⟨_, _, ⟨T13, L13, kk13, nn13⟩, -, X13, ⟨Lc13, hQ13, l13, y13, z13⟩, st13⟩ := Jvm.LawKit.callS X11 hx (y := (⟨"java/lang/StringLatin1", "hashCode", "([B)I"⟩ : MethodName)) hown (mvT hZ (ww hw 60 rfl)) (mvT hZ (ww hw 61 rfl)) (mvT hZ (ww hw 62 rfl)) (mvT hZ (ww hw 63 rfl)) (by decide) (backOf (W := 0) (rmLH l Z a0 hw [] tx kx cs h0 n0 Z0 SH.1.2.2.2.1 SH.1.2.2.2.2.1 SH.1.2.2.2.2.2 SH.2.2.2) hZ (ww hw 63 rfl) (ww hw 62 rfl) (by decide) (by decide)) (g := (mkF m 27 #[vr sx, vi 0] [(.ref tx)])) rfl (by rw [hml]; rfl) (argsL := [(.ref tx)]) (rest := []) (lenOf pd_oaBcI rfl) rfl (by show 2 * 0 + _ ≤ _; exact Nat.le_of_eq rfl) (hb hby D4_27) (fun _ _ => ⟨rfl, e11, (by decide : 0 + 0 ≤ _), (by decide : 0 + 0 ≤ _)⟩)
  dsimp only [Pt.U, Pt.locs, Pt.cells, Pt.slots] at X13 l13 y13 z13 st13 hQ13
  subst l13 y13 z13
  obtain ⟨rfl, Nq13, eq13⟩ := hQ13
  have c14 : SS p e below S0 (T13.setTop (mkF m 30 #[vr sx, vi 0] [(.int (own_hash cs))])) := c12.trans (st13 _ (Steps.refl _))
  have N13 := Fr.app N8 Nq13
  have c15 : SS p e below S0 (T13.setTop (mkF m 42 #[vr sx, vi (own_hash cs)] [(.int (own_hash cs))])) := c14.trans (by
    show SS p e below (T13.setTop (mkF m 30 #[vr sx, vi 0] [(.int (own_hash cs))])) _
    refine XS.goto X13.here hx rfl (pc0 := 30) (pc' := 40) rfl (hb hby D4_30) (by decide) (by decide) ?_
    refine XS.istoreN X13.here hx rfl (hb hby D4_40) rfl (l' := #[vr sx, vi (own_hash cs)]) rfl ?_
    refine XS.iloadN X13.here hx rfl (hb hby D4_41) rfl ?_
    exact Steps.refl _)
  by_cases hq16 : (own_hash cs) = (0 : Int32)
  · have c17 : SS p e below S0 (T13.setTop (mkF m 47 #[vr sx, vi (own_hash cs)] [(.int 1), (.ref sx)])) := c15.trans (by
      show SS p e below (T13.setTop (mkF m 42 #[vr sx, vi (own_hash cs)] [(.int (own_hash cs))])) _
      refine XS.ifNo X13.here hx rfl (hb hby D4_42) rfl ((if0 _ _).trans (teq hq16).2) ?_
      refine XS.aloadN X13.here hx rfl (hb hby D4_45) rfl rfl ?_
      refine XS.iconst X13.here hx rfl (hb hby D4_46) ?_
      exact Steps.refl _)
    obtain ⟨T18, h18, X18, e18, W18, st18⟩ := putFN X13 hx hZ hown (ww hw 52 rfl) Via.refl eq13 SH.2.2.1 SH.1.1 (Or.inl (ww hw 53 rfl)) (ww hw 6 rfl) (ty := .boolean) (v' := (.int 1)) (by decide) rfl rfl (g := (mkF m 47 #[vr sx, vi (own_hash cs)] [(.int 1), (.ref sx)])) rfl rfl (hb hby D4_47)
    have c19 : SS p e below S0 (T18.setTop (mkF m 50 #[vr sx, vi (own_hash cs)] [])) := c17.trans (st18 _ (Steps.refl _))
    have N18 := Fr.snoc X18 N13 g_sx
    have Fw18 := SH.2.2.1.same W18
    have z18 : n0 ≤ h18.size := Nat.le_trans Z0 (Keep.of_wr W18).1
    have K18 := K0.wr W18 (Or.inl (by simp))
    have c20 : SS p e below S0 (T18.setTop (mkF m 59 #[vr sx, vi (own_hash cs)] [(.int (own_hash cs))])) := c19.trans (by
      show SS p e below (T18.setTop (mkF m 50 #[vr sx, vi (own_hash cs)] [])) _
      refine XS.goto X18.here hx rfl (pc0 := 50) (pc' := 58) rfl (hb hby D4_50) (by decide) (by decide) ?_
      refine XS.iloadN X18.here hx rfl (hb hby D4_58) rfl ?_
      exact Steps.refl _)
    obtain ⟨fs, hr, hrun, hended, hW, hsame⟩ := X18.leave (v := some (.int (own_hash cs))) (fun h => by rw [Bd.returns] at h; cases h)
    refine ⟨_, _, c20.trans (retOut X18 hx Bd.returns rfl (Or.inl ⟨rfl, by simp, _, rfl⟩) (hb hby D4_59) hr), hrun, hended, _, _, rfl, ?_, ⟨_, rfl⟩, hW, hsame.mono (by first | decide | exact Nat.le_of_ble_eq_true rfl) (by first | decide | exact Nat.le_of_ble_eq_true rfl)⟩
    show QHC Z sx tx kx cs h0 n0 _ T18.heap _
    rw [e18]
    exact ⟨rfl, N18, K18, ⟨(SH.1.1.wr W18), (SH.1.2.1.other W18 (Or.inr (slot_ne (Or.inr (ww hw 21 rfl)) (Or.inl (ww hw 53 rfl)) (by decide) (t := (.array .byte)) (t' := .boolean) (by decide) (by decide)))), (SH.1.2.2.1.other W18 (Or.inr (slot_ne (Or.inr (ww hw 22 rfl)) (Or.inl (ww hw 53 rfl)) (by decide) (t := .byte) (t' := .boolean) (by decide) (by decide)))), (SH.1.2.2.2.1.other W18 (Ne.symm (Exa.neArv SH.1.1 SH.1.2.2.2.1 (ww hw 6 rfl)))), SH.1.2.2.2.2.1, SH.1.2.2.2.2.2⟩⟩
  · have c21 : SS p e below S0 (T13.setTop (mkF m 55 #[vr sx, vi (own_hash cs)] [(.int (own_hash cs)), (.ref sx)])) := c15.trans (by
      show SS p e below (T13.setTop (mkF m 42 #[vr sx, vi (own_hash cs)] [(.int (own_hash cs))])) _
      refine XS.ifYes X13.here hx rfl (pc0 := 42) (pc' := 53) rfl (hb hby D4_42) rfl ((if0 _ _).trans (feq hq16).2) (by decide) (by decide) ?_
      refine XS.aloadN X13.here hx rfl (hb hby D4_53) rfl rfl ?_
      refine XS.iloadN X13.here hx rfl (hb hby D4_54) rfl ?_
      exact Steps.refl _)
    obtain ⟨T22, h22, X22, e22, W22, st22⟩ := putF X13 hx hZ hown (host := "") (Or.inl (ww hw 50 rfl)) Via.refl eq13 SH.2.1 SH.1.1 (Or.inl (ww hw 51 rfl)) (ww hw 6 rfl) (ty := .int) (by decide) rfl rfl (g := (mkF m 55 #[vr sx, vi (own_hash cs)] [(.int (own_hash cs)), (.ref sx)])) rfl rfl (hb hby D4_55)
    have c23 : SS p e below S0 (T22.setTop (mkF m 58 #[vr sx, vi (own_hash cs)] [])) := c21.trans (st22 _ (Steps.refl _))
    have N22 := Fr.snoc X22 N13 g_sx
    have Fw22 := SH.2.1.same W22
    have z22 : n0 ≤ h22.size := Nat.le_trans Z0 (Keep.of_wr W22).1
    have K22 := K0.wr W22 (Or.inl (by simp))
    have c24 : SS p e below S0 (T22.setTop (mkF m 59 #[vr sx, vi (own_hash cs)] [(.int (own_hash cs))])) := c23.trans (by
      show SS p e below (T22.setTop (mkF m 58 #[vr sx, vi (own_hash cs)] [])) _
      refine XS.iloadN X22.here hx rfl (hb hby D4_58) rfl ?_
      exact Steps.refl _)
    obtain ⟨fs, hr, hrun, hended, hW, hsame⟩ := X22.leave (v := some (.int (own_hash cs))) (fun h => by rw [Bd.returns] at h; cases h)
    refine ⟨_, _, c24.trans (retOut X22 hx Bd.returns rfl (Or.inl ⟨rfl, by simp, _, rfl⟩) (hb hby D4_59) hr), hrun, hended, _, _, rfl, ?_, ⟨_, rfl⟩, hW, hsame.mono (by first | decide | exact Nat.le_of_ble_eq_true rfl) (by first | decide | exact Nat.le_of_ble_eq_true rfl)⟩
    show QHC Z sx tx kx cs h0 n0 _ T22.heap _
    rw [e22]
    exact ⟨rfl, N22, K22, ⟨(SH.1.1.wr W22), (SH.1.2.1.other W22 (Or.inr (slot_ne (Or.inr (ww hw 21 rfl)) (Or.inl (ww hw 51 rfl)) (by decide) (t := (.array .byte)) (t' := .int) (by decide) (by decide)))), (SH.1.2.2.1.other W22 (Or.inr (slot_ne (Or.inr (ww hw 22 rfl)) (Or.inl (ww hw 51 rfl)) (by decide) (t := .byte) (t' := .int) (by decide) (by decide)))), (SH.1.2.2.2.1.other W22 (Ne.symm (Exa.neArv SH.1.1 SH.1.2.2.2.1 (ww hw 6 rfl)))), SH.1.2.2.2.2.1, SH.1.2.2.2.2.2⟩⟩

def QNo (Z : State) (h0 : Heap) (n0 : Nat) (v : Option Value) (h : Heap) (L : List Loc) : Prop := v = none ∧ Fr n0 L ∧ h = h0
def QRef (Z : State) (q : Addr) (h0 : Heap) (n0 : Nat) (v : Option Value) (h : Heap) (L : List Loc) : Prop := v = some (.ref q) ∧ Fr n0 L ∧ h = h0
/-- the builder's bytes: the chars so far, then zeros -/
def own_pad (as : List Int32) : List Value := as.map (fun ch => Value.int (ch.toInt8.toInt32)) ++ List.replicate (16 - as.length) (.int 0)
theorem own_padl {as : List Int32} (h : as.length ≤ 16) : (own_pad as).length = 16 := by simp [own_pad]; omega
/-- a builder x of the chars as, its bytes at t -/
def SBO (Z : State) (h : Heap) (x t : Addr) (kb : ClassId) (as : List Int32) : Prop := Exa Z h x "java/lang/StringBuilder" ∧ Fld Z h x "java/lang/AbstractStringBuilder" "value" "[B" (.ref t) ∧ Fld Z h x "java/lang/AbstractStringBuilder" "coder" "B" (.int 0) ∧ Fld Z h x "java/lang/AbstractStringBuilder" "count" "I" (.int (Int32.ofNat as.length)) ∧ Arv Z h t kb .byte (16 : Int32) (own_pad as) (.int 0) ∧ (∀ ch ∈ as, ¬ ch < 0 ∧ ¬ (255 : Int32) < ch) ∧ as.length ≤ 16
def QSI (Z : State) (x : Addr) (h0 : Heap) (n0 : Nat) (v : Option Value) (h : Heap) (L : List Loc) : Prop := ∃ (t : Addr) (kb : ClassId), v = none ∧ Fr n0 L ∧ Keep h0 h [x] ∧ h0.size ≤ t ∧ SBO Z h x t kb []
def QGB (Z : State) (t : Addr) (kb : ClassId) (as : List Int32) (h0 : Heap) (n0 : Nat) (v : Option Value) (h : Heap) (L : List Loc) : Prop := v = none ∧ Fr n0 L ∧ Keep h0 h [t] ∧ Arv Z h t kb .byte (16 : Int32) (own_pad as) (.int 0)
def QAp (Z : State) (x t : Addr) (kb : ClassId) (as : List Int32) (h0 : Heap) (n0 : Nat) (v : Option Value) (h : Heap) (L : List Loc) : Prop := v = some (.ref x) ∧ Fr n0 L ∧ Keep h0 h [x, t] ∧ SBO Z h x t kb as
def QNewB (Z : State) (cs : List Int32) (h0 : Heap) (n0 : Nat) (v : Option Value) (h : Heap) (L : List Loc) : Prop := ∃ (t : Addr) (kb : ClassId), v = some (.ref t) ∧ Fr n0 L ∧ Keep h0 h [] ∧ h0.size ≤ t ∧ Arv Z h t kb .byte (Int32.ofNat cs.length) ((cs.map (fun c => c.toInt8.toInt32)).map Value.int) (.int 0)
def QStr (Z : State) (x : Addr) (cs : List Int32) (h0 : Heap) (n0 : Nat) (v : Option Value) (h : Heap) (L : List Loc) : Prop := ∃ (t : Addr) (kb : ClassId), v = none ∧ Fr n0 L ∧ Keep h0 h [x] ∧ OStr Z h x t kb cs
theorem own_shl0 (x : Int32) : x <<< ((0 : Int32) &&& 31) = x := by
  apply Int32.toBitVec_inj.mp
  show x.toBitVec <<< _ = x.toBitVec
  exact BitVec.shiftLeft_zero x.toBitVec
theorem own_nat {j : Nat} (h : j < 2147483648) : (Int32.ofNat j).toNatClampNeg = j := clamp_of rfl h
theorem own_cap {n : Nat} (h : n ≤ 16) : ¬ (0 : Int32) < Int32.ofNat n - (16 : Int32) := by
  rcases (by omega : n = 0 ∨ n = 1 ∨ n = 2 ∨ n = 3 ∨ n = 4 ∨ n = 5 ∨ n = 6 ∨ n = 7 ∨ n = 8 ∨ n = 9 ∨ n = 10 ∨ n = 11 ∨ n = 12 ∨ n = 13 ∨ n = 14 ∨ n = 15 ∨ n = 16) with rfl | rfl | rfl | rfl | rfl | rfl | rfl | rfl | rfl | rfl | rfl | rfl | rfl | rfl | rfl | rfl | rfl <;> decide
theorem own_addN (a b : Nat) : Int32.ofNat a + Int32.ofNat b = Int32.ofNat (a + b) := by
  apply Int32.toBitVec_inj.mp
  show BitVec.ofNat 32 a + BitVec.ofNat 32 b = BitVec.ofNat 32 (a + b)
  exact (BitVec.ofNat_add a b).symm
/-- what the copy of cs behind as leaves -/
theorem own_cp {as cs : List Int32} (h : as.length + cs.length ≤ 16) : (own_pad as).take (Int32.ofNat as.length).toNatClampNeg ++ ((List.range (Int32.ofNat cs.length).toNatClampNeg).map fun i => ((cs.map (fun c => c.toInt8.toInt32)).map Value.int).getD ((0 : Int32).toNatClampNeg + i) (.int 0)) ++ (own_pad as).drop ((Int32.ofNat as.length).toNatClampNeg + (Int32.ofNat cs.length).toNatClampNeg) = own_pad (as ++ cs) := by
  rw [own_nat (by omega), own_nat (by omega)]
  have e0 : (0 : Int32).toNatClampNeg = 0 := rfl
  rw [e0]
  have e1 : (List.range cs.length).map (fun i => ((cs.map (fun c => c.toInt8.toInt32)).map Value.int).getD (0 + i) (.int 0)) = cs.map (fun ch => Value.int (ch.toInt8.toInt32)) := by
    apply List.ext_getElem
    · simp
    · intro i h1 h2
      simp at h1 h2
      simp [List.getD_eq_getElem?_getD, h1]
  rw [e1]
  unfold own_pad
  rw [List.take_append_of_le_length (by simp), List.take_of_length_le (by simp), List.drop_append, List.drop_of_length_le (by simp), List.map_append, List.nil_append, List.append_assoc, List.append_assoc]
  congr 2
  simp only [List.length_map, List.drop_replicate, List.length_append]
  congr 1
  omega
/-- the first n bytes of the builder, copied out -/
theorem own_cp2 {as : List Int32} (h : as.length ≤ 16) {vd : List Value} (hd : vd.length = as.length) : vd.take (0 : Int32).toNatClampNeg ++ ((List.range (Int32.ofNat as.length).toNatClampNeg).map fun i => (own_pad as).getD ((0 : Int32).toNatClampNeg + i) (.int 0)) ++ vd.drop ((0 : Int32).toNatClampNeg + (Int32.ofNat as.length).toNatClampNeg) = (as.map (fun c => c.toInt8.toInt32)).map Value.int := by
  rw [own_nat (by omega)]
  have e0 : (0 : Int32).toNatClampNeg = 0 := rfl
  rw [e0, List.take_zero, List.nil_append, List.drop_of_length_le (by omega), List.append_nil]
  apply List.ext_getElem
  · simp
  · intro i h1 h2
    simp at h1 h2
    simp [own_pad, List.getD_eq_getElem?_getD, List.getElem?_append, h1]
theorem own_nf {s : State} {args : Array Value} {C : String} {y y2 : MethodName} (hc : y.cls = y2.cls) (h3 : (Cond.instanceMethod y2).before args s = true) (h2 : (Cond.selects C y2 y2).before args s = true) : NotFace s y := fun r0 h0 => by
  obtain ⟨mk2, methM2, hnamed2, -, -, -⟩ := Cond.instanceMethod_spec h3
  obtain ⟨kr, hk1, hk2⟩ := notFace_of_selects h2 _ hnamed2
  have a := findClass_of_methodNamed h0
  have b := findClass_of_methodNamed hnamed2
  rw [← hc] at b
  have e : mk2.cls = r0.cls := Option.some.inj (b.symm.trans a)
  exact ⟨kr, e ▸ hk1, hk2⟩
theorem own_decl {Z : State} {a0 : Array Value} {y : MethodName} {bytes : ByteArray} {maxL : Nat} {ret : Option FieldType} (h1 : (Cond.instanceMethod y).before a0 Z = true) (h2 : (Cond.code y bytes maxL ret).before a0 Z = true) : (Cond.declares y).before a0 Z = true := by
  obtain ⟨mk, methM, hnamed, hmethM, hst, -⟩ := Cond.instanceMethod_spec h1
  obtain ⟨meth, c, hm, -, -, -, -, -, -, hsig⟩ := Cond.code_spec hnamed h2
  cases hmethM.symm.trans hm
  simp [Cond.before, Cond.holds, Cond.value, hnamed, hmethM, hst, hsig]
theorem own_same {Z : State} {a0 : Array Value} {C : String} {y y2 : MethodName} (hc : y.cls = y2.cls) (hx : y.cls ≠ "java/lang/invoke/MethodHandle" ∧ y.cls ≠ "java/lang/invoke/VarHandle") (h1 : (Cond.instanceMethod y).before a0 Z = true) (h3 : (Cond.instanceMethod y2).before a0 Z = true) (h2 : (Cond.selects C y2 y2).before a0 Z = true) : (Cond.sameMethod y.cls y.cls y.name y.desc).before a0 Z = true := by
  obtain ⟨mk, methM, hnamed, hmethM, -, -⟩ := Cond.instanceMethod_spec h1
  obtain ⟨mk2, methM2, hnamed2, hmethM2, -, -⟩ := Cond.instanceMethod_spec h3
  have hf := State.methodFound?_of_named hnamed hx
  have hcl := findClass_of_methodNamed hnamed
  have hcl2 := findClass_of_methodNamed hnamed2
  rw [← hc] at hcl2
  obtain ⟨kr, hk1, hk2⟩ := notFace_of_selects h2 _ hnamed2
  have e2 : mk2.cls = mk.cls := (Option.some.inj (hcl.symm.trans hcl2)).symm
  rw [e2] at hk1
  have hn : Z.methodNamed? ⟨y.cls, y.name, y.desc⟩ = some mk := hnamed
  simp [Cond.before, Cond.holds, Cond.value, hcl, hf, hn, hk1, hk2]

theorem D5_0 : decode jdk_68_method_2_code 0 = .ok (.aload_n 0, 1) := by decide +kernel
theorem D5_1 : decode jdk_68_method_2_code 1 = .ok (.invokespecial 3, 3) := by decide +kernel
theorem D5_4 : decode jdk_68_method_2_code 4 = .ok (.getstatic 18, 3) := by decide +kernel
theorem D5_7 : decode jdk_68_method_2_code 7 = .ok (.ifCond .eq 18, 3) := by decide +kernel
theorem D5_10 : decode jdk_68_method_2_code 10 = .ok (.aload_n 0, 1) := by decide +kernel
theorem D5_11 : decode jdk_68_method_2_code 11 = .ok (.iload_n 1, 1) := by decide +kernel
theorem D5_12 : decode jdk_68_method_2_code 12 = .ok (.newarray .byte, 2) := by decide +kernel
theorem D5_14 : decode jdk_68_method_2_code 14 = .ok (.putfield 15, 3) := by decide +kernel
theorem D5_17 : decode jdk_68_method_2_code 17 = .ok (.aload_n 0, 1) := by decide +kernel
theorem D5_18 : decode jdk_68_method_2_code 18 = .ok (.iconst 0, 1) := by decide +kernel
theorem D5_19 : decode jdk_68_method_2_code 19 = .ok (.putfield 22, 3) := by decide +kernel
theorem D5_22 : decode jdk_68_method_2_code 22 = .ok (.goto 16, 3) := by decide +kernel
theorem D5_38 : decode jdk_68_method_2_code 38 = .ok (.return_, 1) := by decide +kernel
theorem pn_java_lang_AbstractStringBuilder : plainName "java/lang/AbstractStringBuilder" = true := by first | (simp [plainName, overriddenIn]; done) | decide +kernel
theorem ef_rmAI (m : MethodId) (x0 : Addr) (x1 : Int32) : entryFrame m #[(.ref x0), (.int x1)] 2 = mkF m 0 #[.val (.ref x0), .val (.int x1)] [] := by first | (simp [entryFrame, mkF, argsToLocals, Value.category]; done) | rfl
set_option maxRecDepth 65536 in
set_option maxHeartbeats 40000000 in
theorem rmAI (l : Launch) (Z : State) (a0 : Array Value) (hw : ∀ d ∈ tables_1, d.before a0 Z = true) (ws : List Jvm.Cond) (x : Addr) (G1 : Int32) (h0 : Heap) (n0 : Nat) (Z0 : n0 ≤ h0.size) (g_x : n0 ≤ x) (Ex : Exa Z h0 x "java/lang/StringBuilder") (F0 : Fld Z h0 x "java/lang/AbstractStringBuilder" "value" "[B" .null) (F1 : Fld Z h0 x "java/lang/AbstractStringBuilder" "coder" "B" (.int 0)) (F2 : Fld Z h0 x "java/lang/AbstractStringBuilder" "count" "I" (.int 0)) (O2 : Sta Z Z.heap "java/lang/String" "COMPACT_STRINGS" "Z" (.int G1)) (P5 : ¬ G1 = 0) (X00 : Old Z n0 h0) :
    MetFree l (⟨"java/lang/AbstractStringBuilder", "<init>", "(I)V"⟩ : MethodName) (head1 (Jvm.Cond.code (⟨"java/lang/AbstractStringBuilder", "<init>", "(I)V"⟩ : MethodName) jdk_68_method_2_code 2 (none) :: ws) ({ frames := 1, cells := 1, slots := 16, locals := 12 } : Room)) (fun aa U => aa = #[(.ref x), (.int 16)] ∧ Z.Warmed39 U.vm ∧ U.heap = h0) (fun _ _ _ _ _ => True) (fun _ U o U' => ∃ v L, o = .returned v ∧ QSI Z x h0 n0 v U'.heap L ∧ FrameEnd U o U' L ({ frames := 1, cells := 1, slots := 16, locals := 12 } : Room).cells ({ frames := 1, cells := 1, slots := 16, locals := 12 } : Room).slots) := by
  refine MetFree.of_bodySF (plainFor_of_name pn_java_lang_AbstractStringBuilder) hisR ?_
  intro p e s m args below meth c s₁ Bd hml0 hP hK
  obtain ⟨rfl, hZ, hh⟩ := hP
  have hx := Bd.exec
  have hby := Bd.bytes
  have hml : c.maxLocals = 2 := hml0
  have hown : s.vm.findClass "java/lang/AbstractStringBuilder" = some m.cls := findClass_of_methodNamed Bd.named
  have hnm := (name_of_methodNamed Bd.named Bd.method).1
  have X0 : Stand p l e ({ frames := 1, cells := 1, slots := 16, locals := 12 } : Room) s m #[(.ref x), (.int 16)] below meth c s₁ [] 0 0 := Stand.of_body Bd
  have e0 : s₁.heap = h0 := by rw [← hh, Bd.state]; rfl
  have N0 := Fr.nil n0
  have K0 := Keep.refl h0 [x]
  obtain ⟨S0, hS0⟩ : ∃ z, z = s₁.setTop (entryFrame m #[(.ref x), (.int 16)] 2) := ⟨_, rfl⟩
  rw [← hS0]
  have c0 : SS p e below S0 (s₁.setTop (mkF m 0 #[vr x, vi 16] [])) := by
    rw [hS0]; exact castTop (ef_rmAI m x (16 : Int32)) (Steps.refl _)
  have c1 : SS p e below S0 (s₁.setTop (mkF m 1 #[vr x, vi 16] [(.ref x)])) := c0.trans (by
    show SS p e below (s₁.setTop (mkF m 0 #[vr x, vi 16] [])) _
    refine XS.aloadN X0.here hx rfl (hb hby D5_0) rfl rfl ?_
    exact Steps.refl _)
  obtain ⟨T2, X2, e2, st2⟩ := initO X0 hx hZ hown (ww hw 83 rfl) (ww hw 17 rfl) (ww hw 18 rfl) e0 (g := (mkF m 1 #[vr x, vi 16] [(.ref x)])) rfl (by rw [hml]; rfl) rfl (hb hby D5_1) (by decide) (W := 0) (by show 2 * 0 + _ ≤ _; exact Nat.le_of_eq rfl) (by decide)
  have c3 : SS p e below S0 (T2.setTop (mkF m 4 #[vr x, vi 16] [])) := c1.trans (st2 _ (Steps.refl _))
  obtain ⟨T4, X4, e4, st4⟩ := getS2 X2 hx hZ hown (host := "") (Or.inl (ww hw 84 rfl)) Via.refl e2 (O2.ext X00.2) (g := (mkF m 4 #[vr x, vi 16] [])) rfl (hb hby D5_4)
  have c5 : SS p e below S0 (T4.setTop (mkF m 7 #[vr x, vi 16] [(.int G1)])) := c3.trans (st4 _ (Steps.refl _))
  have c6 : SS p e below S0 (T4.setTop (mkF m 12 #[vr x, vi 16] [(.int 16), (.ref x)])) := c5.trans (by
    show SS p e below (T4.setTop (mkF m 7 #[vr x, vi 16] [(.int G1)])) _
    refine XS.ifNo X4.here hx rfl (hb hby D5_7) rfl ((if0 _ _).trans (feq P5).1) ?_
    refine XS.aloadN X4.here hx rfl (hb hby D5_10) rfl rfl ?_
    refine XS.iloadN X4.here hx rfl (hb hby D5_11) rfl ?_
    exact Steps.refl _)
  obtain ⟨T7, h7, k7, X7, e7, E7, A7, st7⟩ := newP X4 hx hZ (ww hw 20 rfl) e4 (g := (mkF m 12 #[vr x, vi 16] [(.int 16), (.ref x)])) rfl (hb hby D5_12) rfl (by decide) (cap := 16) (by decide) (by decide) (by decide) (by decide)
  obtain ⟨b7, g7⟩ : ∃ z, z = h0.size := ⟨_, rfl⟩
  rw [← g7] at A7 st7
  have c8 : SS p e below S0 (T7.setTop (mkF m 14 #[vr x, vi 16] [(.ref b7), (.ref x)])) := c6.trans (st7 _ (Steps.refl _))
  have z7 : n0 ≤ h7.size := Nat.le_trans Z0 E7.1
  have K7 := K0.ext E7
  have V7 : Arv Z h7 b7 k7 .byte (16 : Int32) [(.int 0), (.int 0), (.int 0), (.int 0), (.int 0), (.int 0), (.int 0), (.int 0), (.int 0), (.int 0), (.int 0), (.int 0), (.int 0), (.int 0), (.int 0), (.int 0)] (.int 0) := (Arv.new A7 (by decide)).pad (pad_rep [] (.int 0) 16)
  have lt_b7 : b7 < h7.size := V7.lt
  obtain ⟨T9, h9, X9, e9, W9, st9⟩ := putF X7 hx hZ hown (host := "") (Or.inl (ww hw 85 rfl)) Via.refl e7 (F0.ext E7) (Ex.ext E7) (Or.inl (ww hw 86 rfl)) (ww hw 72 rfl) (ty := (.array .byte)) (by decide) rfl rfl (g := (mkF m 14 #[vr x, vi 16] [(.ref b7), (.ref x)])) rfl rfl (hb hby D5_14)
  have c10 : SS p e below S0 (T9.setTop (mkF m 17 #[vr x, vi 16] [])) := c8.trans (st9 _ (Steps.refl _))
  have N9 := Fr.snoc X9 N0 g_x
  have Fw9 := (F0.ext E7).same W9
  have z9 : n0 ≤ h9.size := Nat.le_trans z7 (Keep.of_wr W9).1
  have K9 := K7.wr W9 (Or.inl (by simp))
  have c11 : SS p e below S0 (T9.setTop (mkF m 19 #[vr x, vi 16] [(.int 0), (.ref x)])) := c10.trans (by
    show SS p e below (T9.setTop (mkF m 17 #[vr x, vi 16] [])) _
    refine XS.aloadN X9.here hx rfl (hb hby D5_17) rfl rfl ?_
    refine XS.iconst X9.here hx rfl (hb hby D5_18) ?_
    exact Steps.refl _)
  obtain ⟨T12, h12, X12, e12, W12, st12⟩ := putFN X9 hx hZ hown (ww hw 87 rfl) Via.refl e9 ((F1.ext E7).other W9 (Or.inr (slot_ne (Or.inl (ww hw 88 rfl)) (Or.inl (ww hw 86 rfl)) (by decide) (t := .byte) (t' := (.array .byte)) (by decide) (by decide)))) ((Ex.ext E7).wr W9) (Or.inl (ww hw 88 rfl)) (ww hw 72 rfl) (ty := .byte) (v' := (.int 0)) (by decide) rfl rfl (g := (mkF m 19 #[vr x, vi 16] [(.int 0), (.ref x)])) rfl rfl (hb hby D5_19)
  have c13 : SS p e below S0 (T12.setTop (mkF m 22 #[vr x, vi 16] [])) := c11.trans (st12 _ (Steps.refl _))
  have N12 := Fr.snoc X12 N9 g_x
  have Fw12 := ((F1.ext E7).other W9 (Or.inr (slot_ne (Or.inl (ww hw 88 rfl)) (Or.inl (ww hw 86 rfl)) (by decide) (t := .byte) (t' := (.array .byte)) (by decide) (by decide)))).same W12
  have z12 : n0 ≤ h12.size := Nat.le_trans z9 (Keep.of_wr W12).1
  have K12 := K9.wr W12 (Or.inl (by simp))
  have c14 : SS p e below S0 (T12.setTop (mkF m 38 #[vr x, vi 16] [])) := c13.trans (by
    show SS p e below (T12.setTop (mkF m 22 #[vr x, vi 16] [])) _
    refine XS.goto X12.here hx rfl (pc0 := 22) (pc' := 38) rfl (hb hby D5_22) (by decide) (by decide) ?_
    exact Steps.refl _)
  obtain ⟨fs, hr, hrun, hended, hW, hsame⟩ := X12.leave (v := none) (fun h => rfl)
  refine ⟨_, _, c14.trans (X12.returnOut hx Bd.returns (hb hby D5_38) hr), hrun, hended, _, _, rfl, ?_, ⟨_, rfl⟩, hW, hsame.mono (by first | decide | exact Nat.le_of_ble_eq_true rfl) (by first | decide | exact Nat.le_of_ble_eq_true rfl)⟩
  show QSI Z x h0 n0 _ T12.heap _
  rw [e12]
  exact ⟨_, _, rfl, N12, K12, (Nat.le_trans K0.1 (Nat.le_of_eq g7.symm)), (((Ex.ext E7).wr W9).wr W12), (Fw9.other W12 (Or.inr (slot_ne (Or.inl (ww hw 86 rfl)) (Or.inl (ww hw 88 rfl)) (by decide) (t := (.array .byte)) (t' := .byte) (by decide) (by decide)))), Fw12, (((F2.ext E7).other W9 (Or.inr (slot_ne (Or.inl (ww hw 110 rfl)) (Or.inl (ww hw 86 rfl)) (by decide) (t := .int) (t' := (.array .byte)) (by decide) (by decide)))).other W12 (Or.inr (slot_ne (Or.inl (ww hw 110 rfl)) (Or.inl (ww hw 88 rfl)) (by decide) (t := .int) (t' := .byte) (by decide) (by decide)))), ((V7.other W9 (Ne.symm (Nat.ne_of_lt (Nat.lt_of_lt_of_le Ex.lt (Nat.le_of_eq g7.symm))))).other W12 (Ne.symm (Nat.ne_of_lt (Nat.lt_of_lt_of_le Ex.lt (Nat.le_of_eq g7.symm))))), own_al0, Nat.zero_le _⟩

theorem D6_0 : decode jdk_67_method_1_code 0 = .ok (.aload_n 0, 1) := by decide +kernel
theorem D6_1 : decode jdk_67_method_1_code 1 = .ok (.bipush 16, 2) := by decide +kernel
theorem pd_oIcV : parseMethodDescriptor "(I)V" = some ⟨[.int], none⟩ := by decide +kernel
theorem D6_3 : decode jdk_67_method_1_code 3 = .ok (.invokespecial 1, 3) := by decide +kernel
theorem D6_6 : decode jdk_67_method_1_code 6 = .ok (.return_, 1) := by decide +kernel
theorem pn_java_lang_StringBuilder : plainName "java/lang/StringBuilder" = true := by first | (simp [plainName, overriddenIn]; done) | decide +kernel
theorem ef_rmSI (m : MethodId) (x0 : Addr) : entryFrame m #[(.ref x0)] 1 = mkF m 0 #[.val (.ref x0)] [] := by first | (simp [entryFrame, mkF, argsToLocals, Value.category]; done) | rfl
set_option maxRecDepth 65536 in
set_option maxHeartbeats 40000000 in
theorem rmSI (l : Launch) (Z : State) (a0 : Array Value) (hw : ∀ d ∈ tables_1, d.before a0 Z = true) (ws : List Jvm.Cond) (x : Addr) (G1 : Int32) (h0 : Heap) (n0 : Nat) (Z0 : n0 ≤ h0.size) (g_x : n0 ≤ x) (Ex : Exa Z h0 x "java/lang/StringBuilder") (F0 : Fld Z h0 x "java/lang/AbstractStringBuilder" "value" "[B" .null) (F1 : Fld Z h0 x "java/lang/AbstractStringBuilder" "coder" "B" (.int 0)) (F2 : Fld Z h0 x "java/lang/AbstractStringBuilder" "count" "I" (.int 0)) (O2 : Sta Z Z.heap "java/lang/String" "COMPACT_STRINGS" "Z" (.int G1)) (P5 : ¬ G1 = 0) (X00 : Old Z n0 h0) :
    MetFree l (⟨"java/lang/StringBuilder", "<init>", "()V"⟩ : MethodName) (head1 (Jvm.Cond.code (⟨"java/lang/StringBuilder", "<init>", "()V"⟩ : MethodName) jdk_67_method_1_code 1 (none) :: ws) ({ frames := 2, cells := 1, slots := 16, locals := 25 } : Room)) (fun aa U => aa = #[(.ref x)] ∧ Z.Warmed39 U.vm ∧ U.heap = h0) (fun _ _ _ _ _ => True) (fun _ U o U' => ∃ v L, o = .returned v ∧ QSI Z x h0 n0 v U'.heap L ∧ FrameEnd U o U' L ({ frames := 2, cells := 1, slots := 16, locals := 25 } : Room).cells ({ frames := 2, cells := 1, slots := 16, locals := 25 } : Room).slots) := by
  refine MetFree.of_bodySF (plainFor_of_name pn_java_lang_StringBuilder) hisR ?_
  intro p e s m args below meth c s₁ Bd hml0 hP hK
  obtain ⟨rfl, hZ, hh⟩ := hP
  have hx := Bd.exec
  have hby := Bd.bytes
  have hml : c.maxLocals = 1 := hml0
  have hown : s.vm.findClass "java/lang/StringBuilder" = some m.cls := findClass_of_methodNamed Bd.named
  have hnm := (name_of_methodNamed Bd.named Bd.method).1
  have X0 : Stand p l e ({ frames := 2, cells := 1, slots := 16, locals := 25 } : Room) s m #[(.ref x)] below meth c s₁ [] 0 0 := Stand.of_body Bd
  have e0 : s₁.heap = h0 := by rw [← hh, Bd.state]; rfl
  have N0 := Fr.nil n0
  have K0 := Keep.refl h0 [x]
  obtain ⟨S0, hS0⟩ : ∃ z, z = s₁.setTop (entryFrame m #[(.ref x)] 1) := ⟨_, rfl⟩
  rw [← hS0]
  have c0 : SS p e below S0 (s₁.setTop (mkF m 0 #[vr x] [])) := by
    rw [hS0]; exact castTop (ef_rmSI m x) (Steps.refl _)
  have c1 : SS p e below S0 (s₁.setTop (mkF m 3 #[vr x] [(.int 16), (.ref x)])) := c0.trans (by
    show SS p e below (s₁.setTop (mkF m 0 #[vr x] [])) _
    refine XS.aloadN X0.here hx rfl (hb hby D6_0) rfl rfl ?_
    refine XS.bipush X0.here hx rfl (hb hby D6_1) ?_
    exact Steps.refl _)
  obtain ⟨_, _, ⟨T2, L2, kk2, nn2⟩, -, X2, ⟨Lc2, hQ2, l2, y2, z2⟩, st2⟩ := X0.specialBack hx (y := (⟨"java/lang/AbstractStringBuilder", "<init>", "(I)V"⟩ : MethodName)) rfl hown (mvT hZ (ww hw 77 rfl)) (mvT hZ (ww hw 78 rfl)) (mvT hZ (ww hw 82 rfl)) (by decide) (backOf (W := 0) (rmAI l Z a0 hw [] x G1 h0 n0 Z0 g_x Ex F0 F1 F2 O2 P5 X00) hZ (ww hw 82 rfl) (ww hw 81 rfl) (by decide) (by decide)) (g := (mkF m 3 #[vr x] [(.int 16), (.ref x)])) rfl (by rw [hml]; rfl) (Steps.refl _) (a := x) (argsL := [(.int 16)]) (rest := []) (lenOf pd_oIcV rfl) rfl (by show 2 * 0 + _ ≤ _; exact Nat.le_of_eq rfl) (hb hby D6_3) (fun _ _ => ⟨rfl, e0, (by decide : 0 + 1 ≤ _), (by decide : 0 + 16 ≤ _)⟩)
  dsimp only [Pt.U, Pt.locs, Pt.cells, Pt.slots] at X2 l2 y2 z2 st2 hQ2
  subst l2 y2 z2
  obtain ⟨t2, kb2, rfl, Nq2, Kq2, gt2, So2⟩ := hQ2
  have c3 : SS p e below S0 (T2.setTop (mkF m 6 #[vr x] [])) := c1.trans (st2)
  have N2 := Fr.app N0 Nq2
  have z2 : n0 ≤ T2.heap.size := Nat.le_trans Z0 Kq2.1
  have K2 := K0.trans Kq2 (allS (Or.inl (by simp)) all0)
  obtain ⟨fs, hr, hrun, hended, hW, hsame⟩ := X2.leave (v := none) (fun h => rfl)
  refine ⟨_, _, c3.trans (X2.returnOut hx Bd.returns (hb hby D6_6) hr), hrun, hended, _, _, rfl, ?_, ⟨_, rfl⟩, hW, hsame.mono (by first | decide | exact Nat.le_of_ble_eq_true rfl) (by first | decide | exact Nat.le_of_ble_eq_true rfl)⟩
  show QSI Z x h0 n0 _ T2.heap _
  exact ⟨_, _, rfl, N2, K2, gt2, So2⟩

theorem D7_0 : decode jdk_42_method_152_code 0 = .ok (.getstatic 38, 3) := by decide +kernel
theorem D7_3 : decode jdk_42_method_152_code 3 = .ok (.ifCond .eq 10, 3) := by decide +kernel
theorem D7_6 : decode jdk_42_method_152_code 6 = .ok (.aload_n 0, 1) := by decide +kernel
theorem D7_7 : decode jdk_42_method_152_code 7 = .ok (.getfield 15, 3) := by decide +kernel
theorem D7_10 : decode jdk_42_method_152_code 10 = .ok (.goto 4, 3) := by decide +kernel
theorem D7_14 : decode jdk_42_method_152_code 14 = .ok (.ireturn, 1) := by decide +kernel
theorem ef_rmCd (m : MethodId) (x0 : Addr) : entryFrame m #[(.ref x0)] 1 = mkF m 0 #[.val (.ref x0)] [] := by first | (simp [entryFrame, mkF, argsToLocals, Value.category]; done) | rfl
set_option maxRecDepth 65536 in
set_option maxHeartbeats 40000000 in
theorem rmCd (l : Launch) (Z : State) (a0 : Array Value) (hw : ∀ d ∈ tables_1, d.before a0 Z = true) (ws : List Jvm.Cond) (sx : Addr) (G1 : Int32) (h0 : Heap) (n0 : Nat) (Z0 : n0 ≤ h0.size) (Fc : Fld Z h0 sx "java/lang/String" "coder" "B" (.int 0)) (O2 : Sta Z Z.heap "java/lang/String" "COMPACT_STRINGS" "Z" (.int G1)) (P5 : ¬ G1 = 0) (X00 : Old Z n0 h0) :
    MetFree l (⟨"java/lang/String", "coder", "()B"⟩ : MethodName) (head1 (Jvm.Cond.code (⟨"java/lang/String", "coder", "()B"⟩ : MethodName) jdk_42_method_152_code 1 (some .byte) :: ws) ({ frames := 0, cells := 0, slots := 0, locals := 0 } : Room)) (fun aa U => aa = #[(.ref sx)] ∧ Z.Warmed39 U.vm ∧ U.heap = h0) (fun _ _ _ _ _ => True) (fun _ U o U' => ∃ v L, o = .returned v ∧ QInt Z 0 h0 n0 v U'.heap L ∧ FrameEnd U o U' L ({ frames := 0, cells := 0, slots := 0, locals := 0 } : Room).cells ({ frames := 0, cells := 0, slots := 0, locals := 0 } : Room).slots) := by
  refine MetFree.of_bodySF (plainFor_of_name pn_java_lang_String) hisR ?_
  intro p e s m args below meth c s₁ Bd hml0 hP hK
  obtain ⟨rfl, hZ, hh⟩ := hP
  have hx := Bd.exec
  have hby := Bd.bytes
  have hml : c.maxLocals = 1 := hml0
  have hown : s.vm.findClass "java/lang/String" = some m.cls := findClass_of_methodNamed Bd.named
  have hnm := (name_of_methodNamed Bd.named Bd.method).1
  have X0 : Stand p l e ({ frames := 0, cells := 0, slots := 0, locals := 0 } : Room) s m #[(.ref sx)] below meth c s₁ [] 0 0 := Stand.of_body Bd
  have e0 : s₁.heap = h0 := by rw [← hh, Bd.state]; rfl
  have N0 := Fr.nil n0
  have K0 := Keep.refl h0 []
  obtain ⟨S0, hS0⟩ : ∃ z, z = s₁.setTop (entryFrame m #[(.ref sx)] 1) := ⟨_, rfl⟩
  rw [← hS0]
  have c0 : SS p e below S0 (s₁.setTop (mkF m 0 #[vr sx] [])) := by
    rw [hS0]; exact castTop (ef_rmCd m sx) (Steps.refl _)
  obtain ⟨T1, X1, e1, st1⟩ := getS2 X0 hx hZ hown (host := "") (Or.inl (ww hw 59 rfl)) Via.refl e0 (O2.ext X00.2) (g := (mkF m 0 #[vr sx] [])) rfl (hb hby D7_0)
  have c2 : SS p e below S0 (T1.setTop (mkF m 3 #[vr sx] [(.int G1)])) := c0.trans (st1 _ (Steps.refl _))
  have c3 : SS p e below S0 (T1.setTop (mkF m 7 #[vr sx] [(.ref sx)])) := c2.trans (by
    show SS p e below (T1.setTop (mkF m 3 #[vr sx] [(.int G1)])) _
    refine XS.ifNo X1.here hx rfl (hb hby D7_3) rfl ((if0 _ _).trans (feq P5).1) ?_
    refine XS.aloadN X1.here hx rfl (hb hby D7_6) rfl rfl ?_
    exact Steps.refl _)
  obtain ⟨T4, X4, e4, st4⟩ := getF X1 hx hZ hown (host := "") (Or.inl (ww hw 26 rfl)) Via.refl e1 Fc (g := (mkF m 7 #[vr sx] [(.ref sx)])) rfl rfl (hb hby D7_7)
  have c5 : SS p e below S0 (T4.setTop (mkF m 10 #[vr sx] [(.int 0)])) := c3.trans (st4 _ (Steps.refl _))
  have c6 : SS p e below S0 (T4.setTop (mkF m 14 #[vr sx] [(.int 0)])) := c5.trans (by
    show SS p e below (T4.setTop (mkF m 10 #[vr sx] [(.int 0)])) _
    refine XS.goto X4.here hx rfl (pc0 := 10) (pc' := 14) rfl (hb hby D7_10) (by decide) (by decide) ?_
    exact Steps.refl _)
  obtain ⟨fs, hr, hrun, hended, hW, hsame⟩ := X4.leave (v := some (.int 0)) (fun h => by rw [Bd.returns] at h; cases h)
  refine ⟨_, _, c6.trans (retOut X4 hx Bd.returns rfl (Or.inl ⟨rfl, by simp, _, rfl⟩) (hb hby D7_14) hr), hrun, hended, _, _, rfl, ?_, ⟨_, rfl⟩, hW, hsame.mono (by first | decide | exact Nat.le_of_ble_eq_true rfl) (by first | decide | exact Nat.le_of_ble_eq_true rfl)⟩
  show QInt Z 0 h0 n0 _ T4.heap _
  rw [e4]
  exact ⟨rfl, N0, rfl⟩

theorem D8_0 : decode jdk_68_method_71_code 0 = .ok (.getstatic 18, 3) := by decide +kernel
theorem D8_3 : decode jdk_68_method_71_code 3 = .ok (.ifCond .eq 18, 3) := by decide +kernel
theorem D8_6 : decode jdk_68_method_71_code 6 = .ok (.aload_n 0, 1) := by decide +kernel
theorem D8_7 : decode jdk_68_method_71_code 7 = .ok (.getfield 22, 3) := by decide +kernel
theorem D8_10 : decode jdk_68_method_71_code 10 = .ok (.aload_n 1, 1) := by decide +kernel
theorem pd_ocB : parseMethodDescriptor "()B" = some ⟨[], some .byte⟩ := by decide +kernel
theorem D8_11 : decode jdk_68_method_71_code 11 = .ok (.invokevirtual 40, 3) := by decide +kernel
theorem D8_14 : decode jdk_68_method_71_code 14 = .ok (.if_icmp .eq 7, 3) := by decide +kernel
theorem D8_21 : decode jdk_68_method_71_code 21 = .ok (.return_, 1) := by decide +kernel
theorem ef_rmIn (m : MethodId) (x0 : Addr) (x1 : Addr) : entryFrame m #[(.ref x0), (.ref x1)] 2 = mkF m 0 #[.val (.ref x0), .val (.ref x1)] [] := by first | (simp [entryFrame, mkF, argsToLocals, Value.category]; done) | rfl
set_option maxRecDepth 65536 in
set_option maxHeartbeats 40000000 in
theorem rmIn (l : Launch) (Z : State) (a0 : Array Value) (hw : ∀ d ∈ tables_1, d.before a0 Z = true) (ws : List Jvm.Cond) (x sx : Addr) (G1 : Int32) (h0 : Heap) (n0 : Nat) (Z0 : n0 ≤ h0.size) (Fx : Fld Z h0 x "java/lang/AbstractStringBuilder" "coder" "B" (.int 0)) (Es : Exa Z h0 sx "java/lang/String") (Fc : Fld Z h0 sx "java/lang/String" "coder" "B" (.int 0)) (O2 : Sta Z Z.heap "java/lang/String" "COMPACT_STRINGS" "Z" (.int G1)) (P5 : ¬ G1 = 0) (X00 : Old Z n0 h0) :
    MetFree l (⟨"java/lang/AbstractStringBuilder", "inflateIfNeededFor", "(Ljava/lang/String;)V"⟩ : MethodName) (head1 (Jvm.Cond.code (⟨"java/lang/AbstractStringBuilder", "inflateIfNeededFor", "(Ljava/lang/String;)V"⟩ : MethodName) jdk_68_method_71_code 2 (none) :: ws) ({ frames := 1, cells := 0, slots := 0, locals := 13 } : Room)) (fun aa U => aa = #[(.ref x), (.ref sx)] ∧ Z.Warmed39 U.vm ∧ U.heap = h0) (fun _ _ _ _ _ => True) (fun _ U o U' => ∃ v L, o = .returned v ∧ QNo Z  h0 n0 v U'.heap L ∧ FrameEnd U o U' L ({ frames := 1, cells := 0, slots := 0, locals := 13 } : Room).cells ({ frames := 1, cells := 0, slots := 0, locals := 13 } : Room).slots) := by
  refine MetFree.of_bodySF (plainFor_of_name pn_java_lang_AbstractStringBuilder) hisR ?_
  intro p e s m args below meth c s₁ Bd hml0 hP hK
  obtain ⟨rfl, hZ, hh⟩ := hP
  have hx := Bd.exec
  have hby := Bd.bytes
  have hml : c.maxLocals = 2 := hml0
  have hown : s.vm.findClass "java/lang/AbstractStringBuilder" = some m.cls := findClass_of_methodNamed Bd.named
  have hnm := (name_of_methodNamed Bd.named Bd.method).1
  have X0 : Stand p l e ({ frames := 1, cells := 0, slots := 0, locals := 13 } : Room) s m #[(.ref x), (.ref sx)] below meth c s₁ [] 0 0 := Stand.of_body Bd
  have e0 : s₁.heap = h0 := by rw [← hh, Bd.state]; rfl
  have N0 := Fr.nil n0
  have K0 := Keep.refl h0 []
  obtain ⟨S0, hS0⟩ : ∃ z, z = s₁.setTop (entryFrame m #[(.ref x), (.ref sx)] 2) := ⟨_, rfl⟩
  rw [← hS0]
  have c0 : SS p e below S0 (s₁.setTop (mkF m 0 #[vr x, vr sx] [])) := by
    rw [hS0]; exact castTop (ef_rmIn m x sx) (Steps.refl _)
  obtain ⟨T1, X1, e1, st1⟩ := getS2 X0 hx hZ hown (host := "") (Or.inl (ww hw 84 rfl)) Via.refl e0 (O2.ext X00.2) (g := (mkF m 0 #[vr x, vr sx] [])) rfl (hb hby D8_0)
  have c2 : SS p e below S0 (T1.setTop (mkF m 3 #[vr x, vr sx] [(.int G1)])) := c0.trans (st1 _ (Steps.refl _))
  have c3 : SS p e below S0 (T1.setTop (mkF m 7 #[vr x, vr sx] [(.ref x)])) := c2.trans (by
    show SS p e below (T1.setTop (mkF m 3 #[vr x, vr sx] [(.int G1)])) _
    refine XS.ifNo X1.here hx rfl (hb hby D8_3) rfl ((if0 _ _).trans (feq P5).1) ?_
    refine XS.aloadN X1.here hx rfl (hb hby D8_6) rfl rfl ?_
    exact Steps.refl _)
  obtain ⟨T4, X4, e4, st4⟩ := getF X1 hx hZ hown (host := "") (Or.inl (ww hw 87 rfl)) Via.refl e1 Fx (g := (mkF m 7 #[vr x, vr sx] [(.ref x)])) rfl rfl (hb hby D8_7)
  have c5 : SS p e below S0 (T4.setTop (mkF m 10 #[vr x, vr sx] [(.int 0)])) := c3.trans (st4 _ (Steps.refl _))
  have c6 : SS p e below S0 (T4.setTop (mkF m 11 #[vr x, vr sx] [(.ref sx), (.int 0)])) := c5.trans (by
    show SS p e below (T4.setTop (mkF m 10 #[vr x, vr sx] [(.int 0)])) _
    refine XS.aloadN X4.here hx rfl (hb hby D8_10) rfl rfl ?_
    exact Steps.refl _)
  obtain ⟨cq7, kq7, q7a, q7b, q7c⟩ := isOf hZ e4 Es
  obtain ⟨_, _, ⟨T7, L7, kk7, nn7⟩, -, X7, ⟨Lc7, hQ7, l7, y7, z7⟩, st7⟩ := X4.virtualBack hx (y := (⟨"java/lang/String", "coder", "()B"⟩ : MethodName)) (z := (⟨"java/lang/String", "coder", "()B"⟩ : MethodName)) hown (mvT hZ (ww hw 126 rfl)) (mvT hZ (ww hw 105 rfl)) (notFace_of_selects (args := #[]) (mvT hZ (ww hw 107 rfl))) (mvT hZ (ww hw 107 rfl)) (mvT hZ (ww hw 106 rfl)) (by decide) (backOf (W := 1) (rmCd l Z a0 hw [] sx G1 h0 n0 Z0 Fc O2 P5 X00) hZ (ww hw 108 rfl) (ww hw 7 rfl) (by decide) (by decide)) q7a q7c (g := (mkF m 11 #[vr x, vr sx] [(.ref sx), (.int 0)])) rfl (by rw [hml]; rfl) (Steps.refl _) (argsL := []) (rest := [(.int 0)]) (lenOf pd_ocB rfl) rfl (by show 2 * 0 + _ ≤ _; exact Nat.le_of_eq rfl) (hb hby D8_11) (fun _ _ => ⟨rfl, e4, (by decide : 0 + 0 ≤ _), (by decide : 0 + 0 ≤ _)⟩)
  dsimp only [Pt.U, Pt.locs, Pt.cells, Pt.slots] at X7 l7 y7 z7 st7 hQ7
  subst l7 y7 z7
  obtain ⟨rfl, Nq7, eq7⟩ := hQ7
  have c8 : SS p e below S0 (T7.setTop (mkF m 14 #[vr x, vr sx] [(.int 0), (.int 0)])) := c6.trans (st7)
  have N7 := Fr.app N0 Nq7
  have c9 : SS p e below S0 (T7.setTop (mkF m 21 #[vr x, vr sx] [])) := c8.trans (by
    show SS p e below (T7.setTop (mkF m 14 #[vr x, vr sx] [(.int 0), (.int 0)])) _
    refine XS.icmpYes X7.here hx rfl (pc0 := 14) (pc' := 21) rfl (hb hby D8_14) rfl (teq (by decide : ((0 : Int32) = (0 : Int32)))).1 (by decide) (by decide) ?_
    exact Steps.refl _)
  obtain ⟨fs, hr, hrun, hended, hW, hsame⟩ := X7.leave (v := none) (fun h => rfl)
  refine ⟨_, _, c9.trans (X7.returnOut hx Bd.returns (hb hby D8_21) hr), hrun, hended, _, _, rfl, ?_, ⟨_, rfl⟩, hW, hsame.mono (by first | decide | exact Nat.le_of_ble_eq_true rfl) (by first | decide | exact Nat.le_of_ble_eq_true rfl)⟩
  show QNo Z  h0 n0 _ T7.heap _
  rw [eq7]
  exact ⟨rfl, N7, rfl⟩

theorem D9_0 : decode jdk_68_method_9_code 0 = .ok (.aload_n 0, 1) := by decide +kernel
theorem D9_1 : decode jdk_68_method_9_code 1 = .ok (.getfield 15, 3) := by decide +kernel
theorem D9_4 : decode jdk_68_method_9_code 4 = .ok (.arraylength, 1) := by decide +kernel
theorem D9_5 : decode jdk_68_method_9_code 5 = .ok (.aload_n 0, 1) := by decide +kernel
theorem D9_6 : decode jdk_68_method_9_code 6 = .ok (.getfield 22, 3) := by decide +kernel
theorem D9_9 : decode jdk_68_method_9_code 9 = .ok (.ishr, 1) := by decide +kernel
theorem D9_10 : decode jdk_68_method_9_code 10 = .ok (.istore_n 2, 1) := by decide +kernel
theorem D9_11 : decode jdk_68_method_9_code 11 = .ok (.iload_n 1, 1) := by decide +kernel
theorem D9_12 : decode jdk_68_method_9_code 12 = .ok (.iload_n 2, 1) := by decide +kernel
theorem D9_13 : decode jdk_68_method_9_code 13 = .ok (.isub, 1) := by decide +kernel
theorem D9_14 : decode jdk_68_method_9_code 14 = .ok (.ifCond .le 24, 3) := by decide +kernel
theorem D9_38 : decode jdk_68_method_9_code 38 = .ok (.return_, 1) := by decide +kernel
theorem ef_rmEn (m : MethodId) (x0 : Addr) (x1 : Int32) : entryFrame m #[(.ref x0), (.int x1)] 3 = mkF m 0 #[.val (.ref x0), .val (.int x1), .unset] [] := by first | (simp [entryFrame, mkF, argsToLocals, Value.category]; done) | rfl
set_option maxRecDepth 65536 in
set_option maxHeartbeats 40000000 in
theorem rmEn (l : Launch) (Z : State) (a0 : Array Value) (hw : ∀ d ∈ tables_1, d.before a0 Z = true) (ws : List Jvm.Cond) (x t : Addr) (kb : ClassId) (as : List Int32) (n : Nat) (h0 : Heap) (n0 : Nat) (Z0 : n0 ≤ h0.size) (Bx : SBO Z h0 x t kb as) (hn : n ≤ 16) :
    MetFree l (⟨"java/lang/AbstractStringBuilder", "ensureCapacityInternal", "(I)V"⟩ : MethodName) (head1 (Jvm.Cond.code (⟨"java/lang/AbstractStringBuilder", "ensureCapacityInternal", "(I)V"⟩ : MethodName) jdk_68_method_9_code 3 (none) :: ws) ({ frames := 0, cells := 0, slots := 0, locals := 0 } : Room)) (fun aa U => aa = #[(.ref x), (.int (Int32.ofNat n))] ∧ Z.Warmed39 U.vm ∧ U.heap = h0) (fun _ _ _ _ _ => True) (fun _ U o U' => ∃ v L, o = .returned v ∧ QNo Z  h0 n0 v U'.heap L ∧ FrameEnd U o U' L ({ frames := 0, cells := 0, slots := 0, locals := 0 } : Room).cells ({ frames := 0, cells := 0, slots := 0, locals := 0 } : Room).slots) := by
  refine MetFree.of_bodySF (plainFor_of_name pn_java_lang_AbstractStringBuilder) hisR ?_
  intro p e s m args below meth c s₁ Bd hml0 hP hK
  obtain ⟨rfl, hZ, hh⟩ := hP
  have hx := Bd.exec
  have hby := Bd.bytes
  have hml : c.maxLocals = 3 := hml0
  have hown : s.vm.findClass "java/lang/AbstractStringBuilder" = some m.cls := findClass_of_methodNamed Bd.named
  have hnm := (name_of_methodNamed Bd.named Bd.method).1
  have X0 : Stand p l e ({ frames := 0, cells := 0, slots := 0, locals := 0 } : Room) s m #[(.ref x), (.int (Int32.ofNat n))] below meth c s₁ [] 0 0 := Stand.of_body Bd
  have e0 : s₁.heap = h0 := by rw [← hh, Bd.state]; rfl
  have N0 := Fr.nil n0
  have K0 := Keep.refl h0 []
  obtain ⟨S0, hS0⟩ : ∃ z, z = s₁.setTop (entryFrame m #[(.ref x), (.int (Int32.ofNat n))] 3) := ⟨_, rfl⟩
  rw [← hS0]
  have c0 : SS p e below S0 (s₁.setTop (mkF m 0 #[vr x, vi (Int32.ofNat n), .unset] [])) := by
    rw [hS0]; exact castTop (ef_rmEn m x (Int32.ofNat n)) (Steps.refl _)
  have c1 : SS p e below S0 (s₁.setTop (mkF m 1 #[vr x, vi (Int32.ofNat n), .unset] [(.ref x)])) := c0.trans (by
    show SS p e below (s₁.setTop (mkF m 0 #[vr x, vi (Int32.ofNat n), .unset] [])) _
    refine XS.aloadN X0.here hx rfl (hb hby D9_0) rfl rfl ?_
    exact Steps.refl _)
  obtain ⟨T2, X2, e2, st2⟩ := getF X0 hx hZ hown (host := "") (Or.inl (ww hw 85 rfl)) Via.refl e0 Bx.2.1 (g := (mkF m 1 #[vr x, vi (Int32.ofNat n), .unset] [(.ref x)])) rfl rfl (hb hby D9_1)
  have c3 : SS p e below S0 (T2.setTop (mkF m 4 #[vr x, vi (Int32.ofNat n), .unset] [(.ref t)])) := c1.trans (st2 _ (Steps.refl _))
  obtain ⟨cl4, Ar4, -, S4, Nn4, -, -⟩ := id Bx.2.2.2.2.1
  have c5 : SS p e below S0 (T2.setTop (mkF m 6 #[vr x, vi (Int32.ofNat n), .unset] [(.ref x), (.int 16)])) := c3.trans (by
    show SS p e below (T2.setTop (mkF m 4 #[vr x, vi (Int32.ofNat n), .unset] [(.ref t)])) _
    refine X2.arraylength hx (by rw [e2]; exact Ar4.1) (State.isArrayOf_alike hZ.alike Ar4.2.1) (g := (mkF m 4 #[vr x, vi (Int32.ofNat n), .unset] [(.ref t)])) rfl rfl (hb hby D9_4) _ ?_
    rw [len_of S4 Nn4]
    refine XS.aloadN X2.here hx rfl (hb hby D9_5) rfl rfl ?_
    exact Steps.refl _)
  obtain ⟨T6, X6, e6, st6⟩ := getF X2 hx hZ hown (host := "") (Or.inl (ww hw 87 rfl)) Via.refl e2 Bx.2.2.1 (g := (mkF m 6 #[vr x, vi (Int32.ofNat n), .unset] [(.ref x), (.int 16)])) rfl rfl (hb hby D9_6)
  have c7 : SS p e below S0 (T6.setTop (mkF m 9 #[vr x, vi (Int32.ofNat n), .unset] [(.int 0), (.int 16)])) := c5.trans (st6 _ (Steps.refl _))
  have c8 : SS p e below S0 (T6.setTop (mkF m 10 #[vr x, vi (Int32.ofNat n), .unset] [(.int ((16 : Int32) >>> ((0 : Int32) &&& 31)))])) := c7.trans (by
    show SS p e below (T6.setTop (mkF m 9 #[vr x, vi (Int32.ofNat n), .unset] [(.int 0), (.int 16)])) _
    refine XS.ishr X6.here hx rfl (hb hby D9_9) rfl ?_
    exact Steps.refl _)
  rw [(show (16 : Int32) >>> ((0 : Int32) &&& 31) = 16 from by decide)] at c8
  have c9 : SS p e below S0 (T6.setTop (mkF m 38 #[vr x, vi (Int32.ofNat n), vi 16] [])) := c8.trans (by
    show SS p e below (T6.setTop (mkF m 10 #[vr x, vi (Int32.ofNat n), .unset] [(.int 16)])) _
    refine XS.istoreN X6.here hx rfl (hb hby D9_10) rfl (l' := #[vr x, vi (Int32.ofNat n), vi 16]) rfl ?_
    refine XS.iloadN X6.here hx rfl (hb hby D9_11) rfl ?_
    refine XS.iloadN X6.here hx rfl (hb hby D9_12) rfl ?_
    refine XS.isub X6.here hx rfl (hb hby D9_13) rfl ?_
    refine XS.ifYes X6.here hx rfl (pc0 := 14) (pc' := 38) rfl (hb hby D9_14) rfl ((if0 _ _).trans (flt (own_cap hn)).2.2.2) (by decide) (by decide) ?_
    exact Steps.refl _)
  obtain ⟨fs, hr, hrun, hended, hW, hsame⟩ := X6.leave (v := none) (fun h => rfl)
  refine ⟨_, _, c9.trans (X6.returnOut hx Bd.returns (hb hby D9_38) hr), hrun, hended, _, _, rfl, ?_, ⟨_, rfl⟩, hW, hsame.mono (by first | decide | exact Nat.le_of_ble_eq_true rfl) (by first | decide | exact Nat.le_of_ble_eq_true rfl)⟩
  show QNo Z  h0 n0 _ T6.heap _
  rw [e6]
  exact ⟨rfl, N0, rfl⟩

theorem own_nn {n : Nat} (h : n < 2147483648) : ¬ Int32.ofNat n < 0 := by
  have e0 : (0 : Int32).toInt = 0 := rfl
  rw [Int32.lt_iff_toInt_lt, own_ofN h, e0]; omega

theorem D10_0 : decode jdk_42_method_147_code 0 = .ok (.aload_n 0, 1) := by decide +kernel
theorem D10_1 : decode jdk_42_method_147_code 1 = .ok (.invokevirtual 335, 3) := by decide +kernel
theorem D10_4 : decode jdk_42_method_147_code 4 = .ok (.iload_n 3, 1) := by decide +kernel
theorem D10_5 : decode jdk_42_method_147_code 5 = .ok (.if_icmp .ne 23, 3) := by decide +kernel
theorem D10_8 : decode jdk_42_method_147_code 8 = .ok (.aload_n 0, 1) := by decide +kernel
theorem D10_9 : decode jdk_42_method_147_code 9 = .ok (.getfield 9, 3) := by decide +kernel
theorem D10_12 : decode jdk_42_method_147_code 12 = .ok (.iconst 0, 1) := by decide +kernel
theorem D10_13 : decode jdk_42_method_147_code 13 = .ok (.aload_n 1, 1) := by decide +kernel
theorem D10_14 : decode jdk_42_method_147_code 14 = .ok (.iload_n 2, 1) := by decide +kernel
theorem D10_15 : decode jdk_42_method_147_code 15 = .ok (.iload_n 3, 1) := by decide +kernel
theorem D10_16 : decode jdk_42_method_147_code 16 = .ok (.ishl, 1) := by decide +kernel
theorem D10_17 : decode jdk_42_method_147_code 17 = .ok (.aload_n 0, 1) := by decide +kernel
theorem D10_18 : decode jdk_42_method_147_code 18 = .ok (.getfield 9, 3) := by decide +kernel
theorem D10_21 : decode jdk_42_method_147_code 21 = .ok (.arraylength, 1) := by decide +kernel
theorem D10_22 : decode jdk_42_method_147_code 22 = .ok (.invokestatic 212, 3) := by decide +kernel
theorem D10_25 : decode jdk_42_method_147_code 25 = .ok (.goto 18, 3) := by decide +kernel
theorem D10_43 : decode jdk_42_method_147_code 43 = .ok (.return_, 1) := by decide +kernel
theorem ef_rmGB (m : MethodId) (x0 : Addr) (x1 : Addr) (x2 : Int32) (x3 : Int32) : entryFrame m #[(.ref x0), (.ref x1), (.int x2), (.int x3)] 4 = mkF m 0 #[.val (.ref x0), .val (.ref x1), .val (.int x2), .val (.int x3)] [] := by first | (simp [entryFrame, mkF, argsToLocals, Value.category]; done) | rfl
set_option maxRecDepth 65536 in
set_option maxHeartbeats 40000000 in
theorem rmGB (l : Launch) (Z : State) (a0 : Array Value) (hw : ∀ d ∈ tables_1, d.before a0 Z = true) (ws : List Jvm.Cond) (t : Addr) (kb : ClassId) (as : List Int32) (sx tx : Addr) (kx : ClassId) (cs : List Int32) (G1 : Int32) (h0 : Heap) (n0 : Nat) (Z0 : n0 ≤ h0.size) (g_t : n0 ≤ t) (Vt : Arv Z h0 t kb .byte (16 : Int32) (own_pad as) (.int 0)) (hl : as.length + cs.length ≤ 16) (Sx : OStr Z h0 sx tx kx cs) (O2 : Sta Z Z.heap "java/lang/String" "COMPACT_STRINGS" "Z" (.int G1)) (P5 : ¬ G1 = 0) (X00 : Old Z n0 h0) :
    MetFree l (⟨"java/lang/String", "getBytes", "([BIB)V"⟩ : MethodName) (head1 (Jvm.Cond.code (⟨"java/lang/String", "getBytes", "([BIB)V"⟩ : MethodName) jdk_42_method_147_code 4 (none) :: ws) ({ frames := 1, cells := 0, slots := 0, locals := 40 } : Room)) (fun aa U => aa = #[(.ref sx), (.ref t), (.int (Int32.ofNat as.length)), (.int 0)] ∧ Z.Warmed39 U.vm ∧ U.heap = h0) (fun _ _ _ _ _ => True) (fun _ U o U' => ∃ v L, o = .returned v ∧ QGB Z t kb (as ++ cs) h0 n0 v U'.heap L ∧ FrameEnd U o U' L ({ frames := 1, cells := 0, slots := 0, locals := 40 } : Room).cells ({ frames := 1, cells := 0, slots := 0, locals := 40 } : Room).slots) := by
  refine MetFree.of_bodySF (plainFor_of_name pn_java_lang_String) hisR ?_
  intro p e s m args below meth c s₁ Bd hml0 hP hK
  obtain ⟨rfl, hZ, hh⟩ := hP
  have hx := Bd.exec
  have hby := Bd.bytes
  have hml : c.maxLocals = 4 := hml0
  have hown : s.vm.findClass "java/lang/String" = some m.cls := findClass_of_methodNamed Bd.named
  have hnm := (name_of_methodNamed Bd.named Bd.method).1
  have X0 : Stand p l e ({ frames := 1, cells := 0, slots := 0, locals := 40 } : Room) s m #[(.ref sx), (.ref t), (.int (Int32.ofNat as.length)), (.int 0)] below meth c s₁ [] 0 0 := Stand.of_body Bd
  have e0 : s₁.heap = h0 := by rw [← hh, Bd.state]; rfl
  have N0 := Fr.nil n0
  have K0 := Keep.refl h0 [t]
  obtain ⟨S0, hS0⟩ : ∃ z, z = s₁.setTop (entryFrame m #[(.ref sx), (.ref t), (.int (Int32.ofNat as.length)), (.int 0)] 4) := ⟨_, rfl⟩
  rw [← hS0]
  have c0 : SS p e below S0 (s₁.setTop (mkF m 0 #[vr sx, vr t, vi (Int32.ofNat as.length), vi 0] [])) := by
    rw [hS0]; exact castTop (ef_rmGB m sx t (Int32.ofNat as.length) (0 : Int32)) (Steps.refl _)
  have c1 : SS p e below S0 (s₁.setTop (mkF m 1 #[vr sx, vr t, vi (Int32.ofNat as.length), vi 0] [(.ref sx)])) := c0.trans (by
    show SS p e below (s₁.setTop (mkF m 0 #[vr sx, vr t, vi (Int32.ofNat as.length), vi 0] [])) _
    refine XS.aloadN X0.here hx rfl (hb hby D10_0) rfl rfl ?_
    exact Steps.refl _)
  obtain ⟨cq2, kq2, q2a, q2b, q2c⟩ := isOf hZ e0 Sx.1
  obtain ⟨_, _, ⟨T2, L2, kk2, nn2⟩, -, X2, ⟨Lc2, hQ2, l2, y2, z2⟩, st2⟩ := X0.virtualBack hx (y := (⟨"java/lang/String", "coder", "()B"⟩ : MethodName)) (z := (⟨"java/lang/String", "coder", "()B"⟩ : MethodName)) hown (mvT hZ (ww hw 104 rfl)) (mvT hZ (ww hw 105 rfl)) (notFace_of_selects (args := #[]) (mvT hZ (ww hw 107 rfl))) (mvT hZ (ww hw 107 rfl)) (mvT hZ (ww hw 106 rfl)) (by decide) (backOf (W := 0) (rmCd l Z a0 hw [] sx G1 h0 n0 Z0 Sx.2.2.1 O2 P5 X00) hZ (ww hw 108 rfl) (ww hw 7 rfl) (by decide) (by decide)) q2a q2c (g := (mkF m 1 #[vr sx, vr t, vi (Int32.ofNat as.length), vi 0] [(.ref sx)])) rfl (by rw [hml]; rfl) (Steps.refl _) (argsL := []) (rest := []) (lenOf pd_ocB rfl) rfl (by show 2 * 0 + _ ≤ _; exact Nat.le_of_eq rfl) (hb hby D10_1) (fun _ _ => ⟨rfl, e0, (by decide : 0 + 0 ≤ _), (by decide : 0 + 0 ≤ _)⟩)
  dsimp only [Pt.U, Pt.locs, Pt.cells, Pt.slots] at X2 l2 y2 z2 st2 hQ2
  subst l2 y2 z2
  obtain ⟨rfl, Nq2, eq2⟩ := hQ2
  have c3 : SS p e below S0 (T2.setTop (mkF m 4 #[vr sx, vr t, vi (Int32.ofNat as.length), vi 0] [(.int 0)])) := c1.trans (st2)
  have N2 := Fr.app N0 Nq2
  have c4 : SS p e below S0 (T2.setTop (mkF m 9 #[vr sx, vr t, vi (Int32.ofNat as.length), vi 0] [(.ref sx)])) := c3.trans (by
    show SS p e below (T2.setTop (mkF m 4 #[vr sx, vr t, vi (Int32.ofNat as.length), vi 0] [(.int 0)])) _
    refine XS.iloadN X2.here hx rfl (hb hby D10_4) rfl ?_
    refine XS.icmpNo X2.here hx rfl (hb hby D10_5) rfl (teq (by decide : ((0 : Int32) = (0 : Int32)))).2 ?_
    refine XS.aloadN X2.here hx rfl (hb hby D10_8) rfl rfl ?_
    exact Steps.refl _)
  obtain ⟨T5, X5, e5, st5⟩ := getF X2 hx hZ hown (host := "") (Or.inl (ww hw 25 rfl)) Via.refl eq2 Sx.2.1 (g := (mkF m 9 #[vr sx, vr t, vi (Int32.ofNat as.length), vi 0] [(.ref sx)])) rfl rfl (hb hby D10_9)
  have c6 : SS p e below S0 (T5.setTop (mkF m 12 #[vr sx, vr t, vi (Int32.ofNat as.length), vi 0] [(.ref tx)])) := c4.trans (st5 _ (Steps.refl _))
  have c7 : SS p e below S0 (T5.setTop (mkF m 17 #[vr sx, vr t, vi (Int32.ofNat as.length), vi 0] [(.int ((Int32.ofNat as.length) <<< ((0 : Int32) &&& 31))), (.ref t), (.int 0), (.ref tx)])) := c6.trans (by
    show SS p e below (T5.setTop (mkF m 12 #[vr sx, vr t, vi (Int32.ofNat as.length), vi 0] [(.ref tx)])) _
    refine XS.iconst X5.here hx rfl (hb hby D10_12) ?_
    refine XS.aloadN X5.here hx rfl (hb hby D10_13) rfl rfl ?_
    refine XS.iloadN X5.here hx rfl (hb hby D10_14) rfl ?_
    refine XS.iloadN X5.here hx rfl (hb hby D10_15) rfl ?_
    refine XS.ishl X5.here hx rfl (hb hby D10_16) rfl ?_
    exact Steps.refl _)
  rw [(own_shl0 (Int32.ofNat as.length))] at c7
  have c8 : SS p e below S0 (T5.setTop (mkF m 18 #[vr sx, vr t, vi (Int32.ofNat as.length), vi 0] [(.ref sx), (.int (Int32.ofNat as.length)), (.ref t), (.int 0), (.ref tx)])) := c7.trans (by
    show SS p e below (T5.setTop (mkF m 17 #[vr sx, vr t, vi (Int32.ofNat as.length), vi 0] [(.int (Int32.ofNat as.length)), (.ref t), (.int 0), (.ref tx)])) _
    refine XS.aloadN X5.here hx rfl (hb hby D10_17) rfl rfl ?_
    exact Steps.refl _)
  obtain ⟨T9, X9, e9, st9⟩ := getF X5 hx hZ hown (host := "") (Or.inl (ww hw 25 rfl)) Via.refl e5 Sx.2.1 (g := (mkF m 18 #[vr sx, vr t, vi (Int32.ofNat as.length), vi 0] [(.ref sx), (.int (Int32.ofNat as.length)), (.ref t), (.int 0), (.ref tx)])) rfl rfl (hb hby D10_18)
  have c10 : SS p e below S0 (T9.setTop (mkF m 21 #[vr sx, vr t, vi (Int32.ofNat as.length), vi 0] [(.ref tx), (.int (Int32.ofNat as.length)), (.ref t), (.int 0), (.ref tx)])) := c8.trans (st9 _ (Steps.refl _))
  obtain ⟨cl11, Ar11, -, S11, Nn11, -, -⟩ := id Sx.2.2.2.1
  have c12 : SS p e below S0 (T9.setTop (mkF m 22 #[vr sx, vr t, vi (Int32.ofNat as.length), vi 0] [(.int (Int32.ofNat cs.length)), (.int (Int32.ofNat as.length)), (.ref t), (.int 0), (.ref tx)])) := c10.trans (by
    show SS p e below (T9.setTop (mkF m 21 #[vr sx, vr t, vi (Int32.ofNat as.length), vi 0] [(.ref tx), (.int (Int32.ofNat as.length)), (.ref t), (.int 0), (.ref tx)])) _
    refine X9.arraylength hx (by rw [e9]; exact Ar11.1) (State.isArrayOf_alike hZ.alike Ar11.2.1) (g := (mkF m 21 #[vr sx, vr t, vi (Int32.ofNat as.length), vi 0] [(.ref tx), (.int (Int32.ofNat as.length)), (.ref t), (.int 0), (.ref tx)])) rfl rfl (hb hby D10_21) _ ?_
    rw [len_of S11 Nn11]
    exact Steps.refl _)
  obtain ⟨T13, h13, l13, X13, e13, N13, Kq13, V13, st13⟩ := cpA X9 hx hZ hown (ww hw 132 rfl) (ww hw 135 rfl) (ww hw 133 rfl) (ww hw 134 rfl) e9 Sx.2.2.2.1 Vt (Or.inl ⟨rfl, rfl⟩) (sp := (0 : Int32)) (dp := (Int32.ofNat as.length)) (nn := (Int32.ofNat cs.length)) (by decide) (own_nn (by omega)) (own_nn (by omega)) (by rw [own_nat (by omega)]; exact Nat.le_of_eq (Nat.zero_add _)) (by rw [own_nat (by omega), own_nat (by omega)]; exact hl) rfl (by rw [own_nat (by omega), own_nat (by omega), own_padl (by omega)]; omega) N2 g_t (g := (mkF m 22 #[vr sx, vr t, vi (Int32.ofNat as.length), vi 0] [(.int (Int32.ofNat cs.length)), (.int (Int32.ofNat as.length)), (.ref t), (.int 0), (.ref tx)])) rfl (by rw [hml]; rfl) (rest := []) rfl (hb hby D10_22) (by decide) (W := 0) (by show 2 * 0 + _ ≤ _; exact Nat.le_of_eq rfl) (by decide)
  have c14 : SS p e below S0 (T13.setTop (mkF m 25 #[vr sx, vr t, vi (Int32.ofNat as.length), vi 0] [])) := c12.trans (st13 _ (Steps.refl _))
  have z13 : n0 ≤ h13.size := Nat.le_trans Z0 Kq13.1
  have K13 := K0.trans Kq13 (allS (Or.inl (by simp)) all0)
  rw [own_cp hl] at V13
  have c15 : SS p e below S0 (T13.setTop (mkF m 43 #[vr sx, vr t, vi (Int32.ofNat as.length), vi 0] [])) := c14.trans (by
    show SS p e below (T13.setTop (mkF m 25 #[vr sx, vr t, vi (Int32.ofNat as.length), vi 0] [])) _
    refine XS.goto X13.here hx rfl (pc0 := 25) (pc' := 43) rfl (hb hby D10_25) (by decide) (by decide) ?_
    exact Steps.refl _)
  obtain ⟨fs, hr, hrun, hended, hW, hsame⟩ := X13.leave (v := none) (fun h => rfl)
  refine ⟨_, _, c15.trans (X13.returnOut hx Bd.returns (hb hby D10_43) hr), hrun, hended, _, _, rfl, ?_, ⟨_, rfl⟩, hW, hsame.mono (by first | decide | exact Nat.le_of_ble_eq_true rfl) (by first | decide | exact Nat.le_of_ble_eq_true rfl)⟩
  show QGB Z t kb (as ++ cs) h0 n0 _ T13.heap _
  rw [e13]
  exact ⟨rfl, N13, K13, V13⟩

theorem D11_0 : decode jdk_68_method_73_code 0 = .ok (.aload_n 0, 1) := by decide +kernel
theorem D11_1 : decode jdk_68_method_73_code 1 = .ok (.aload_n 2, 1) := by decide +kernel
theorem pd_oLjavaslangsStringecV : parseMethodDescriptor "(Ljava/lang/String;)V" = some ⟨[(.object "java/lang/String")], none⟩ := by decide +kernel
theorem D11_2 : decode jdk_68_method_73_code 2 = .ok (.invokevirtual 397, 3) := by decide +kernel
theorem D11_5 : decode jdk_68_method_73_code 5 = .ok (.aload_n 2, 1) := by decide +kernel
theorem D11_6 : decode jdk_68_method_73_code 6 = .ok (.aload_n 0, 1) := by decide +kernel
theorem D11_7 : decode jdk_68_method_73_code 7 = .ok (.getfield 15, 3) := by decide +kernel
theorem D11_10 : decode jdk_68_method_73_code 10 = .ok (.iload_n 1, 1) := by decide +kernel
theorem D11_11 : decode jdk_68_method_73_code 11 = .ok (.aload_n 0, 1) := by decide +kernel
theorem D11_12 : decode jdk_68_method_73_code 12 = .ok (.getfield 22, 3) := by decide +kernel
theorem pd_oaBIBcV : parseMethodDescriptor "([BIB)V" = some ⟨[(.array .byte), .int, .byte], none⟩ := by decide +kernel
theorem D11_15 : decode jdk_68_method_73_code 15 = .ok (.invokevirtual 399, 3) := by decide +kernel
theorem D11_18 : decode jdk_68_method_73_code 18 = .ok (.return_, 1) := by decide +kernel
theorem ef_rmPS (m : MethodId) (x0 : Addr) (x1 : Int32) (x2 : Addr) : entryFrame m #[(.ref x0), (.int x1), (.ref x2)] 3 = mkF m 0 #[.val (.ref x0), .val (.int x1), .val (.ref x2)] [] := by first | (simp [entryFrame, mkF, argsToLocals, Value.category]; done) | rfl
set_option maxRecDepth 65536 in
set_option maxHeartbeats 40000000 in
theorem rmPS (l : Launch) (Z : State) (a0 : Array Value) (hw : ∀ d ∈ tables_1, d.before a0 Z = true) (ws : List Jvm.Cond) (x t : Addr) (kb : ClassId) (as : List Int32) (sx tx : Addr) (kx : ClassId) (cs : List Int32) (G1 : Int32) (h0 : Heap) (n0 : Nat) (Z0 : n0 ≤ h0.size) (g_t : n0 ≤ t) (hl : as.length + cs.length ≤ 16) (Bx : SBO Z h0 x t kb as) (Sx : OStr Z h0 sx tx kx cs) (O2 : Sta Z Z.heap "java/lang/String" "COMPACT_STRINGS" "Z" (.int G1)) (P5 : ¬ G1 = 0) (X00 : Old Z n0 h0) :
    MetFree l (⟨"java/lang/AbstractStringBuilder", "putStringAt", "(ILjava/lang/String;)V"⟩ : MethodName) (head1 (Jvm.Cond.code (⟨"java/lang/AbstractStringBuilder", "putStringAt", "(ILjava/lang/String;)V"⟩ : MethodName) jdk_68_method_73_code 3 (none) :: ws) ({ frames := 2, cells := 0, slots := 0, locals := 55 } : Room)) (fun aa U => aa = #[(.ref x), (.int (Int32.ofNat as.length)), (.ref sx)] ∧ Z.Warmed39 U.vm ∧ U.heap = h0) (fun _ _ _ _ _ => True) (fun _ U o U' => ∃ v L, o = .returned v ∧ QGB Z t kb (as ++ cs) h0 n0 v U'.heap L ∧ FrameEnd U o U' L ({ frames := 2, cells := 0, slots := 0, locals := 55 } : Room).cells ({ frames := 2, cells := 0, slots := 0, locals := 55 } : Room).slots) := by
  refine MetFree.of_bodySF (plainFor_of_name pn_java_lang_AbstractStringBuilder) hisR ?_
  intro p e s m args below meth c s₁ Bd hml0 hP hK
  obtain ⟨rfl, hZ, hh⟩ := hP
  have hx := Bd.exec
  have hby := Bd.bytes
  have hml : c.maxLocals = 3 := hml0
  have hown : s.vm.findClass "java/lang/AbstractStringBuilder" = some m.cls := findClass_of_methodNamed Bd.named
  have hnm := (name_of_methodNamed Bd.named Bd.method).1
  have X0 : Stand p l e ({ frames := 2, cells := 0, slots := 0, locals := 55 } : Room) s m #[(.ref x), (.int (Int32.ofNat as.length)), (.ref sx)] below meth c s₁ [] 0 0 := Stand.of_body Bd
  have e0 : s₁.heap = h0 := by rw [← hh, Bd.state]; rfl
  have N0 := Fr.nil n0
  have K0 := Keep.refl h0 [t]
  obtain ⟨S0, hS0⟩ : ∃ z, z = s₁.setTop (entryFrame m #[(.ref x), (.int (Int32.ofNat as.length)), (.ref sx)] 3) := ⟨_, rfl⟩
  rw [← hS0]
  have c0 : SS p e below S0 (s₁.setTop (mkF m 0 #[vr x, vi (Int32.ofNat as.length), vr sx] [])) := by
    rw [hS0]; exact castTop (ef_rmPS m x (Int32.ofNat as.length) sx) (Steps.refl _)
  have c1 : SS p e below S0 (s₁.setTop (mkF m 2 #[vr x, vi (Int32.ofNat as.length), vr sx] [(.ref sx), (.ref x)])) := c0.trans (by
    show SS p e below (s₁.setTop (mkF m 0 #[vr x, vi (Int32.ofNat as.length), vr sx] [])) _
    refine XS.aloadN X0.here hx rfl (hb hby D11_0) rfl rfl ?_
    refine XS.aloadN X0.here hx rfl (hb hby D11_1) rfl rfl ?_
    exact Steps.refl _)
  obtain ⟨cq2, kq2, q2a, q2b, q2c⟩ := isOf hZ e0 Bx.1
  obtain ⟨_, _, ⟨T2, L2, kk2, nn2⟩, -, X2, ⟨Lc2, hQ2, l2, y2, z2⟩, st2⟩ := X0.virtualBack hx (y := (⟨"java/lang/AbstractStringBuilder", "inflateIfNeededFor", "(Ljava/lang/String;)V"⟩ : MethodName)) (z := (⟨"java/lang/AbstractStringBuilder", "inflateIfNeededFor", "(Ljava/lang/String;)V"⟩ : MethodName)) hown (mvT hZ (ww hw 121 rfl)) (mvT hZ (own_decl (ww hw 122 rfl) (ww hw 125 rfl))) (notFace_of_selects (args := #[]) (mvT hZ (ww hw 124 rfl))) (mvT hZ (ww hw 124 rfl)) (mvT hZ (ww hw 122 rfl)) (by decide) (backOf (W := 0) (rmIn l Z a0 hw [] x sx G1 h0 n0 Z0 Bx.2.2.1 Sx.1 Sx.2.2.1 O2 P5 X00) hZ (ww hw 125 rfl) (ww hw 81 rfl) (by decide) (by decide)) q2a q2c (g := (mkF m 2 #[vr x, vi (Int32.ofNat as.length), vr sx] [(.ref sx), (.ref x)])) rfl (by rw [hml]; rfl) (Steps.refl _) (argsL := [(.ref sx)]) (rest := []) (lenOf pd_oLjavaslangsStringecV rfl) rfl (by show 2 * 0 + _ ≤ _; exact Nat.le_of_eq rfl) (hb hby D11_2) (fun _ _ => ⟨rfl, e0, (by decide : 0 + 0 ≤ _), (by decide : 0 + 0 ≤ _)⟩)
  dsimp only [Pt.U, Pt.locs, Pt.cells, Pt.slots] at X2 l2 y2 z2 st2 hQ2
  subst l2 y2 z2
  obtain ⟨rfl, Nq2, eq2⟩ := hQ2
  have c3 : SS p e below S0 (T2.setTop (mkF m 5 #[vr x, vi (Int32.ofNat as.length), vr sx] [])) := c1.trans (st2)
  have N2 := Fr.app N0 Nq2
  have c4 : SS p e below S0 (T2.setTop (mkF m 7 #[vr x, vi (Int32.ofNat as.length), vr sx] [(.ref x), (.ref sx)])) := c3.trans (by
    show SS p e below (T2.setTop (mkF m 5 #[vr x, vi (Int32.ofNat as.length), vr sx] [])) _
    refine XS.aloadN X2.here hx rfl (hb hby D11_5) rfl rfl ?_
    refine XS.aloadN X2.here hx rfl (hb hby D11_6) rfl rfl ?_
    exact Steps.refl _)
  obtain ⟨T5, X5, e5, st5⟩ := getF X2 hx hZ hown (host := "") (Or.inl (ww hw 85 rfl)) Via.refl eq2 Bx.2.1 (g := (mkF m 7 #[vr x, vi (Int32.ofNat as.length), vr sx] [(.ref x), (.ref sx)])) rfl rfl (hb hby D11_7)
  have c6 : SS p e below S0 (T5.setTop (mkF m 10 #[vr x, vi (Int32.ofNat as.length), vr sx] [(.ref t), (.ref sx)])) := c4.trans (st5 _ (Steps.refl _))
  have c7 : SS p e below S0 (T5.setTop (mkF m 12 #[vr x, vi (Int32.ofNat as.length), vr sx] [(.ref x), (.int (Int32.ofNat as.length)), (.ref t), (.ref sx)])) := c6.trans (by
    show SS p e below (T5.setTop (mkF m 10 #[vr x, vi (Int32.ofNat as.length), vr sx] [(.ref t), (.ref sx)])) _
    refine XS.iloadN X5.here hx rfl (hb hby D11_10) rfl ?_
    refine XS.aloadN X5.here hx rfl (hb hby D11_11) rfl rfl ?_
    exact Steps.refl _)
  obtain ⟨T8, X8, e8, st8⟩ := getF X5 hx hZ hown (host := "") (Or.inl (ww hw 87 rfl)) Via.refl e5 Bx.2.2.1 (g := (mkF m 12 #[vr x, vi (Int32.ofNat as.length), vr sx] [(.ref x), (.int (Int32.ofNat as.length)), (.ref t), (.ref sx)])) rfl rfl (hb hby D11_12)
  have c9 : SS p e below S0 (T8.setTop (mkF m 15 #[vr x, vi (Int32.ofNat as.length), vr sx] [(.int 0), (.int (Int32.ofNat as.length)), (.ref t), (.ref sx)])) := c7.trans (st8 _ (Steps.refl _))
  obtain ⟨cq10, kq10, q10a, q10b, q10c⟩ := isOf hZ e8 Sx.1
  obtain ⟨_, _, ⟨T10, L10, kk10, nn10⟩, -, X10, ⟨Lc10, hQ10, l10, y10, z10⟩, st10⟩ := X8.virtualBack hx (y := (⟨"java/lang/String", "getBytes", "([BIB)V"⟩ : MethodName)) (z := (⟨"java/lang/String", "getBytes", "([BIB)V"⟩ : MethodName)) hown (mvT hZ (ww hw 127 rfl)) (mvT hZ (ww hw 128 rfl)) (notFace_of_selects (args := #[]) (mvT hZ (ww hw 130 rfl))) (mvT hZ (ww hw 130 rfl)) (mvT hZ (ww hw 129 rfl)) (by decide) (backOf (W := 0) (rmGB l Z a0 hw [] t kb as sx tx kx cs G1 h0 n0 Z0 g_t Bx.2.2.2.2.1 hl ⟨Sx.1, Sx.2.1, Sx.2.2.1, Sx.2.2.2.1, Sx.2.2.2.2.1, Sx.2.2.2.2.2⟩ O2 P5 X00) hZ (ww hw 131 rfl) (ww hw 7 rfl) (by decide) (by decide)) q10a q10c (g := (mkF m 15 #[vr x, vi (Int32.ofNat as.length), vr sx] [(.int 0), (.int (Int32.ofNat as.length)), (.ref t), (.ref sx)])) rfl (by rw [hml]; rfl) (Steps.refl _) (argsL := [(.ref t), (.int (Int32.ofNat as.length)), (.int 0)]) (rest := []) (lenOf pd_oaBIBcV rfl) rfl (by show 2 * 0 + _ ≤ _; exact Nat.le_of_eq rfl) (hb hby D11_15) (fun _ _ => ⟨rfl, e8, (by decide : 0 + 0 ≤ _), (by decide : 0 + 0 ≤ _)⟩)
  dsimp only [Pt.U, Pt.locs, Pt.cells, Pt.slots] at X10 l10 y10 z10 st10 hQ10
  subst l10 y10 z10
  obtain ⟨rfl, Nq10, Kq10, Vt10⟩ := hQ10
  have c11 : SS p e below S0 (T10.setTop (mkF m 18 #[vr x, vi (Int32.ofNat as.length), vr sx] [])) := c9.trans (st10)
  have N10 := Fr.app N2 Nq10
  have z10 : n0 ≤ T10.heap.size := Nat.le_trans Z0 Kq10.1
  have K10 := K0.trans Kq10 (allS (Or.inl (by simp)) all0)
  obtain ⟨fs, hr, hrun, hended, hW, hsame⟩ := X10.leave (v := none) (fun h => rfl)
  refine ⟨_, _, c11.trans (X10.returnOut hx Bd.returns (hb hby D11_18) hr), hrun, hended, _, _, rfl, ?_, ⟨_, rfl⟩, hW, hsame.mono (by first | decide | exact Nat.le_of_ble_eq_true rfl) (by first | decide | exact Nat.le_of_ble_eq_true rfl)⟩
  show QGB Z t kb (as ++ cs) h0 n0 _ T10.heap _
  exact ⟨rfl, N10, K10, Vt10⟩

theorem own_app {P : Int32 → Prop} {A B : List Int32} (h : ∀ c ∈ A, P c) (q : ∀ c ∈ B, P c) : ∀ c ∈ A ++ B, P c := fun c hc => (List.mem_append.mp hc).elim (h c) (q c)

theorem D12_0 : decode jdk_68_method_22_code 0 = .ok (.aload_n 1, 1) := by decide +kernel
theorem D12_1 : decode jdk_68_method_22_code 1 = .ok (.ifnonnull 8, 3) := by decide +kernel
theorem D12_9 : decode jdk_68_method_22_code 9 = .ok (.aload_n 1, 1) := by decide +kernel
theorem pd_ocI : parseMethodDescriptor "()I" = some ⟨[], some .int⟩ := by decide +kernel
theorem D12_10 : decode jdk_68_method_22_code 10 = .ok (.invokevirtual 32, 3) := by decide +kernel
theorem D12_13 : decode jdk_68_method_22_code 13 = .ok (.istore_n 2, 1) := by decide +kernel
theorem D12_14 : decode jdk_68_method_22_code 14 = .ok (.aload_n 0, 1) := by decide +kernel
theorem D12_15 : decode jdk_68_method_22_code 15 = .ok (.aload_n 0, 1) := by decide +kernel
theorem D12_16 : decode jdk_68_method_22_code 16 = .ok (.getfield 79, 3) := by decide +kernel
theorem D12_19 : decode jdk_68_method_22_code 19 = .ok (.iload_n 2, 1) := by decide +kernel
theorem D12_20 : decode jdk_68_method_22_code 20 = .ok (.iadd, 1) := by decide +kernel
theorem D12_21 : decode jdk_68_method_22_code 21 = .ok (.invokevirtual 100, 3) := by decide +kernel
theorem D12_24 : decode jdk_68_method_22_code 24 = .ok (.aload_n 0, 1) := by decide +kernel
theorem D12_25 : decode jdk_68_method_22_code 25 = .ok (.aload_n 0, 1) := by decide +kernel
theorem D12_26 : decode jdk_68_method_22_code 26 = .ok (.getfield 79, 3) := by decide +kernel
theorem D12_29 : decode jdk_68_method_22_code 29 = .ok (.aload_n 1, 1) := by decide +kernel
theorem pd_oILjavaslangsStringecV : parseMethodDescriptor "(ILjava/lang/String;)V" = some ⟨[.int, (.object "java/lang/String")], none⟩ := by decide +kernel
theorem D12_30 : decode jdk_68_method_22_code 30 = .ok (.invokevirtual 208, 3) := by decide +kernel
theorem D12_33 : decode jdk_68_method_22_code 33 = .ok (.aload_n 0, 1) := by decide +kernel
theorem D12_34 : decode jdk_68_method_22_code 34 = .ok (.dup, 1) := by decide +kernel
theorem D12_35 : decode jdk_68_method_22_code 35 = .ok (.getfield 79, 3) := by decide +kernel
theorem D12_38 : decode jdk_68_method_22_code 38 = .ok (.iload_n 2, 1) := by decide +kernel
theorem D12_39 : decode jdk_68_method_22_code 39 = .ok (.iadd, 1) := by decide +kernel
theorem D12_40 : decode jdk_68_method_22_code 40 = .ok (.putfield 79, 3) := by decide +kernel
theorem D12_43 : decode jdk_68_method_22_code 43 = .ok (.aload_n 0, 1) := by decide +kernel
theorem D12_44 : decode jdk_68_method_22_code 44 = .ok (.areturn, 1) := by decide +kernel
theorem ef_rmAA (m : MethodId) (x0 : Addr) (x1 : Addr) : entryFrame m #[(.ref x0), (.ref x1)] 3 = mkF m 0 #[.val (.ref x0), .val (.ref x1), .unset] [] := by first | (simp [entryFrame, mkF, argsToLocals, Value.category]; done) | rfl
set_option maxRecDepth 65536 in
set_option maxHeartbeats 40000000 in
theorem rmAA (l : Launch) (Z : State) (a0 : Array Value) (hw : ∀ d ∈ tables_1, d.before a0 Z = true) (ws : List Jvm.Cond) (x t : Addr) (kb : ClassId) (as : List Int32) (sx tx : Addr) (kx : ClassId) (cs : List Int32) (G1 : Int32) (h0 : Heap) (n0 : Nat) (Z0 : n0 ≤ h0.size) (g_x : n0 ≤ x) (g_t : n0 ≤ t) (hl : as.length + cs.length ≤ 16) (Bx : SBO Z h0 x t kb as) (Sx : OStr Z h0 sx tx kx cs) (O2 : Sta Z Z.heap "java/lang/String" "COMPACT_STRINGS" "Z" (.int G1)) (P5 : ¬ G1 = 0) (X00 : Old Z n0 h0) :
    MetFree l (⟨"java/lang/AbstractStringBuilder", "append", "(Ljava/lang/String;)Ljava/lang/AbstractStringBuilder;"⟩ : MethodName) (head1 (Jvm.Cond.code (⟨"java/lang/AbstractStringBuilder", "append", "(Ljava/lang/String;)Ljava/lang/AbstractStringBuilder;"⟩ : MethodName) jdk_68_method_22_code 3 (some (.object "java/lang/AbstractStringBuilder")) :: ws) ({ frames := 3, cells := 0, slots := 0, locals := 69 } : Room)) (fun aa U => aa = #[(.ref x), (.ref sx)] ∧ Z.Warmed39 U.vm ∧ U.heap = h0) (fun _ _ _ _ _ => True) (fun _ U o U' => ∃ v L, o = .returned v ∧ QAp Z x t kb (as ++ cs) h0 n0 v U'.heap L ∧ FrameEnd U o U' L ({ frames := 3, cells := 0, slots := 0, locals := 69 } : Room).cells ({ frames := 3, cells := 0, slots := 0, locals := 69 } : Room).slots) := by
  refine MetFree.of_bodySF (plainFor_of_name pn_java_lang_AbstractStringBuilder) hisR ?_
  intro p e s m args below meth c s₁ Bd hml0 hP hK
  obtain ⟨rfl, hZ, hh⟩ := hP
  have hx := Bd.exec
  have hby := Bd.bytes
  have hml : c.maxLocals = 3 := hml0
  have hown : s.vm.findClass "java/lang/AbstractStringBuilder" = some m.cls := findClass_of_methodNamed Bd.named
  have hnm := (name_of_methodNamed Bd.named Bd.method).1
  have X0 : Stand p l e ({ frames := 3, cells := 0, slots := 0, locals := 69 } : Room) s m #[(.ref x), (.ref sx)] below meth c s₁ [] 0 0 := Stand.of_body Bd
  have e0 : s₁.heap = h0 := by rw [← hh, Bd.state]; rfl
  have N0 := Fr.nil n0
  have K0 := Keep.refl h0 [x, t]
  obtain ⟨S0, hS0⟩ : ∃ z, z = s₁.setTop (entryFrame m #[(.ref x), (.ref sx)] 3) := ⟨_, rfl⟩
  rw [← hS0]
  have c0 : SS p e below S0 (s₁.setTop (mkF m 0 #[vr x, vr sx, .unset] [])) := by
    rw [hS0]; exact castTop (ef_rmAA m x sx) (Steps.refl _)
  have c1 : SS p e below S0 (s₁.setTop (mkF m 10 #[vr x, vr sx, .unset] [(.ref sx)])) := c0.trans (by
    show SS p e below (s₁.setTop (mkF m 0 #[vr x, vr sx, .unset] [])) _
    refine XS.aloadN X0.here hx rfl (hb hby D12_0) rfl rfl ?_
    refine XS.ifnonnullYes X0.here hx rfl (pc0 := 1) (pc' := 9) rfl (hb hby D12_1) rfl (by decide) (by decide) ?_
    refine XS.aloadN X0.here hx rfl (hb hby D12_9) rfl rfl ?_
    exact Steps.refl _)
  have hln2 : ∀ d ∈ StrChars.Road.wordsLen, d.before a0 Z = true := fun d hd => hw d (own_in_wordsLen d hd)
  obtain ⟨cq3, kq3, q3a, q3b, q3c⟩ := isOf hZ e0 Sx.1
  obtain ⟨_, _, ⟨T3, L3, kk3, nn3⟩, -, X3, ⟨Lc3, hQ3, l3, y3, z3⟩, st3⟩ := X0.virtualBack hx (y := (⟨"java/lang/String", "length", "()I"⟩ : MethodName)) (z := (⟨"java/lang/String", "length", "()I"⟩ : MethodName)) hown (mvT hZ (ww hw 99 rfl)) (mvT hZ (ww hw 100 rfl)) (notFace_of_selects (args := #[]) (mvT hZ (ww hw 102 rfl))) (mvT hZ (ww hw 102 rfl)) (mvT hZ (ww hw 101 rfl)) (by decide) (StrChars.Road.lenW (W := 0) hZ hln2 (kI := 4) (ww hw 6 rfl) Sx.1 Sx.2.1 Sx.2.2.1 Sx.2.2.2.1 Sx.cod (own_up _ Sx.2.2.2.2.1) (O2.ext X00.2) P5 Sx.2.2.2.2.2 (by decide) (by decide)) q3a q3c (g := (mkF m 10 #[vr x, vr sx, .unset] [(.ref sx)])) rfl (by rw [hml]; rfl) (Steps.refl _) (argsL := []) (rest := []) (lenOf pd_ocI rfl) rfl (by show 2 * 0 + _ ≤ _; exact Nat.le_of_eq rfl) (hb hby D12_10) (fun _ _ => ⟨rfl, e0, (by decide : 0 + 0 ≤ _), (by decide : 0 + 0 ≤ _)⟩)
  dsimp only [Pt.U, Pt.locs, Pt.cells, Pt.slots] at X3 l3 y3 z3 st3 hQ3
  subst l3 y3 z3
  obtain ⟨rfl, Lq3, eq3⟩ := hQ3
  have c4 : SS p e below S0 (T3.setTop (mkF m 13 #[vr x, vr sx, .unset] [(.int (Int32.ofNat cs.length))])) := c1.trans (st3)
  have N3 := Fr.app N0 (Lq3 ▸ Fr.nil n0)
  have c5 : SS p e below S0 (T3.setTop (mkF m 16 #[vr x, vr sx, vi (Int32.ofNat cs.length)] [(.ref x), (.ref x)])) := c4.trans (by
    show SS p e below (T3.setTop (mkF m 13 #[vr x, vr sx, .unset] [(.int (Int32.ofNat cs.length))])) _
    refine XS.istoreN X3.here hx rfl (hb hby D12_13) rfl (l' := #[vr x, vr sx, vi (Int32.ofNat cs.length)]) rfl ?_
    refine XS.aloadN X3.here hx rfl (hb hby D12_14) rfl rfl ?_
    refine XS.aloadN X3.here hx rfl (hb hby D12_15) rfl rfl ?_
    exact Steps.refl _)
  obtain ⟨T6, X6, e6, st6⟩ := getF X3 hx hZ hown (host := "") (Or.inl (ww hw 109 rfl)) Via.refl eq3 Bx.2.2.2.1 (g := (mkF m 16 #[vr x, vr sx, vi (Int32.ofNat cs.length)] [(.ref x), (.ref x)])) rfl rfl (hb hby D12_16)
  have c7 : SS p e below S0 (T6.setTop (mkF m 19 #[vr x, vr sx, vi (Int32.ofNat cs.length)] [(.int (Int32.ofNat as.length)), (.ref x)])) := c5.trans (st6 _ (Steps.refl _))
  have c8 : SS p e below S0 (T6.setTop (mkF m 21 #[vr x, vr sx, vi (Int32.ofNat cs.length)] [(.int ((Int32.ofNat as.length) + (Int32.ofNat cs.length))), (.ref x)])) := c7.trans (by
    show SS p e below (T6.setTop (mkF m 19 #[vr x, vr sx, vi (Int32.ofNat cs.length)] [(.int (Int32.ofNat as.length)), (.ref x)])) _
    refine XS.iloadN X6.here hx rfl (hb hby D12_19) rfl ?_
    refine XS.iadd X6.here hx rfl (hb hby D12_20) rfl ?_
    exact Steps.refl _)
  rw [(own_addN as.length cs.length)] at c8
  obtain ⟨cq9, kq9, q9a, q9b, q9c⟩ := isOf hZ e6 Bx.1
  obtain ⟨_, _, ⟨T9, L9, kk9, nn9⟩, -, X9, ⟨Lc9, hQ9, l9, y9, z9⟩, st9⟩ := X6.virtualBack hx (y := (⟨"java/lang/AbstractStringBuilder", "ensureCapacityInternal", "(I)V"⟩ : MethodName)) (z := (⟨"java/lang/AbstractStringBuilder", "ensureCapacityInternal", "(I)V"⟩ : MethodName)) hown (mvT hZ (ww hw 111 rfl)) (mvT hZ (own_decl (ww hw 112 rfl) (ww hw 115 rfl))) (notFace_of_selects (args := #[]) (mvT hZ (ww hw 114 rfl))) (mvT hZ (ww hw 114 rfl)) (mvT hZ (ww hw 112 rfl)) (by decide) (backOf (W := 0) (rmEn l Z a0 hw [] x t kb as (as.length + cs.length) h0 n0 Z0 ⟨Bx.1, Bx.2.1, Bx.2.2.1, Bx.2.2.2.1, Bx.2.2.2.2.1, Bx.2.2.2.2.2⟩ hl) hZ (ww hw 115 rfl) (ww hw 81 rfl) (by decide) (by decide)) q9a q9c (g := (mkF m 21 #[vr x, vr sx, vi (Int32.ofNat cs.length)] [(.int (Int32.ofNat (as.length + cs.length))), (.ref x)])) rfl (by rw [hml]; rfl) (Steps.refl _) (argsL := [(.int (Int32.ofNat (as.length + cs.length)))]) (rest := []) (lenOf pd_oIcV rfl) rfl (by show 2 * 0 + _ ≤ _; exact Nat.le_of_eq rfl) (hb hby D12_21) (fun _ _ => ⟨rfl, e6, (by decide : 0 + 0 ≤ _), (by decide : 0 + 0 ≤ _)⟩)
  dsimp only [Pt.U, Pt.locs, Pt.cells, Pt.slots] at X9 l9 y9 z9 st9 hQ9
  subst l9 y9 z9
  obtain ⟨rfl, Nq9, eq9⟩ := hQ9
  have c10 : SS p e below S0 (T9.setTop (mkF m 24 #[vr x, vr sx, vi (Int32.ofNat cs.length)] [])) := c8.trans (st9)
  have N9 := Fr.app N3 Nq9
  have c11 : SS p e below S0 (T9.setTop (mkF m 26 #[vr x, vr sx, vi (Int32.ofNat cs.length)] [(.ref x), (.ref x)])) := c10.trans (by
    show SS p e below (T9.setTop (mkF m 24 #[vr x, vr sx, vi (Int32.ofNat cs.length)] [])) _
    refine XS.aloadN X9.here hx rfl (hb hby D12_24) rfl rfl ?_
    refine XS.aloadN X9.here hx rfl (hb hby D12_25) rfl rfl ?_
    exact Steps.refl _)
  obtain ⟨T12, X12, e12, st12⟩ := getF X9 hx hZ hown (host := "") (Or.inl (ww hw 109 rfl)) Via.refl eq9 Bx.2.2.2.1 (g := (mkF m 26 #[vr x, vr sx, vi (Int32.ofNat cs.length)] [(.ref x), (.ref x)])) rfl rfl (hb hby D12_26)
  have c13 : SS p e below S0 (T12.setTop (mkF m 29 #[vr x, vr sx, vi (Int32.ofNat cs.length)] [(.int (Int32.ofNat as.length)), (.ref x)])) := c11.trans (st12 _ (Steps.refl _))
  have c14 : SS p e below S0 (T12.setTop (mkF m 30 #[vr x, vr sx, vi (Int32.ofNat cs.length)] [(.ref sx), (.int (Int32.ofNat as.length)), (.ref x)])) := c13.trans (by
    show SS p e below (T12.setTop (mkF m 29 #[vr x, vr sx, vi (Int32.ofNat cs.length)] [(.int (Int32.ofNat as.length)), (.ref x)])) _
    refine XS.aloadN X12.here hx rfl (hb hby D12_29) rfl rfl ?_
    exact Steps.refl _)
  obtain ⟨cq15, kq15, q15a, q15b, q15c⟩ := isOf hZ e12 Bx.1
  obtain ⟨_, _, ⟨T15, L15, kk15, nn15⟩, -, X15, ⟨Lc15, hQ15, l15, y15, z15⟩, st15⟩ := X12.virtualBack hx (y := (⟨"java/lang/AbstractStringBuilder", "putStringAt", "(ILjava/lang/String;)V"⟩ : MethodName)) (z := (⟨"java/lang/AbstractStringBuilder", "putStringAt", "(ILjava/lang/String;)V"⟩ : MethodName)) hown (mvT hZ (ww hw 116 rfl)) (mvT hZ (own_decl (ww hw 117 rfl) (ww hw 120 rfl))) (notFace_of_selects (args := #[]) (mvT hZ (ww hw 119 rfl))) (mvT hZ (ww hw 119 rfl)) (mvT hZ (ww hw 117 rfl)) (by decide) (backOf (W := 0) (rmPS l Z a0 hw [] x t kb as sx tx kx cs G1 h0 n0 Z0 g_t hl ⟨Bx.1, Bx.2.1, Bx.2.2.1, Bx.2.2.2.1, Bx.2.2.2.2.1, Bx.2.2.2.2.2⟩ ⟨Sx.1, Sx.2.1, Sx.2.2.1, Sx.2.2.2.1, Sx.2.2.2.2.1, Sx.2.2.2.2.2⟩ O2 P5 X00) hZ (ww hw 120 rfl) (ww hw 81 rfl) (by decide) (by decide)) q15a q15c (g := (mkF m 30 #[vr x, vr sx, vi (Int32.ofNat cs.length)] [(.ref sx), (.int (Int32.ofNat as.length)), (.ref x)])) rfl (by rw [hml]; rfl) (Steps.refl _) (argsL := [(.int (Int32.ofNat as.length)), (.ref sx)]) (rest := []) (lenOf pd_oILjavaslangsStringecV rfl) rfl (by show 2 * 0 + _ ≤ _; exact Nat.le_of_eq rfl) (hb hby D12_30) (fun _ _ => ⟨rfl, e12, (by decide : 0 + 0 ≤ _), (by decide : 0 + 0 ≤ _)⟩)
  dsimp only [Pt.U, Pt.locs, Pt.cells, Pt.slots] at X15 l15 y15 z15 st15 hQ15
  subst l15 y15 z15
  obtain ⟨rfl, Nq15, Kq15, Vt15⟩ := hQ15
  have c16 : SS p e below S0 (T15.setTop (mkF m 33 #[vr x, vr sx, vi (Int32.ofNat cs.length)] [])) := c14.trans (st15)
  have N15 := Fr.app N9 Nq15
  have z15 : n0 ≤ T15.heap.size := Nat.le_trans Z0 Kq15.1
  have K15 := K0.trans Kq15 (allS (Or.inl (by simp)) all0)
  have c17 : SS p e below S0 (T15.setTop (mkF m 35 #[vr x, vr sx, vi (Int32.ofNat cs.length)] [(.ref x), (.ref x)])) := c16.trans (by
    show SS p e below (T15.setTop (mkF m 33 #[vr x, vr sx, vi (Int32.ofNat cs.length)] [])) _
    refine XS.aloadN X15.here hx rfl (hb hby D12_33) rfl rfl ?_
    refine XS.dup X15.here hx rfl (hb hby D12_34) rfl rfl ?_
    exact Steps.refl _)
  obtain ⟨T18, X18, e18, st18⟩ := getF X15 hx hZ hown (host := "") (Or.inl (ww hw 109 rfl)) Via.refl rfl (Bx.2.2.2.1.keep Kq15 (ninS (Ne.symm (Ne.symm (Exa.neArv Bx.1 Bx.2.2.2.2.1 (ww hw 72 rfl)))) nin0)) (g := (mkF m 35 #[vr x, vr sx, vi (Int32.ofNat cs.length)] [(.ref x), (.ref x)])) rfl rfl (hb hby D12_35)
  have c19 : SS p e below S0 (T18.setTop (mkF m 38 #[vr x, vr sx, vi (Int32.ofNat cs.length)] [(.int (Int32.ofNat as.length)), (.ref x)])) := c17.trans (st18 _ (Steps.refl _))
  have c20 : SS p e below S0 (T18.setTop (mkF m 40 #[vr x, vr sx, vi (Int32.ofNat cs.length)] [(.int ((Int32.ofNat as.length) + (Int32.ofNat cs.length))), (.ref x)])) := c19.trans (by
    show SS p e below (T18.setTop (mkF m 38 #[vr x, vr sx, vi (Int32.ofNat cs.length)] [(.int (Int32.ofNat as.length)), (.ref x)])) _
    refine XS.iloadN X18.here hx rfl (hb hby D12_38) rfl ?_
    refine XS.iadd X18.here hx rfl (hb hby D12_39) rfl ?_
    exact Steps.refl _)
  rw [(own_addN as.length cs.length)] at c20
  obtain ⟨T21, h21, X21, e21, W21, st21⟩ := putF X18 hx hZ hown (host := "") (Or.inl (ww hw 109 rfl)) Via.refl e18 (Bx.2.2.2.1.keep Kq15 (ninS (Ne.symm (Ne.symm (Exa.neArv Bx.1 Bx.2.2.2.2.1 (ww hw 72 rfl)))) nin0)) (Bx.1.keep Kq15) (Or.inl (ww hw 110 rfl)) (ww hw 72 rfl) (ty := .int) (by decide) rfl rfl (g := (mkF m 40 #[vr x, vr sx, vi (Int32.ofNat cs.length)] [(.int (Int32.ofNat (as.length + cs.length))), (.ref x)])) rfl rfl (hb hby D12_40)
  have c22 : SS p e below S0 (T21.setTop (mkF m 43 #[vr x, vr sx, vi (Int32.ofNat cs.length)] [])) := c20.trans (st21 _ (Steps.refl _))
  have N21 := Fr.snoc X21 N15 g_x
  have Fw21 := (Bx.2.2.2.1.keep Kq15 (ninS (Ne.symm (Ne.symm (Exa.neArv Bx.1 Bx.2.2.2.2.1 (ww hw 72 rfl)))) nin0)).same W21
  have z21 : n0 ≤ h21.size := Nat.le_trans z15 (Keep.of_wr W21).1
  have K21 := K15.wr W21 (Or.inl (by simp))
  have c23 : SS p e below S0 (T21.setTop (mkF m 44 #[vr x, vr sx, vi (Int32.ofNat cs.length)] [(.ref x)])) := c22.trans (by
    show SS p e below (T21.setTop (mkF m 43 #[vr x, vr sx, vi (Int32.ofNat cs.length)] [])) _
    refine XS.aloadN X21.here hx rfl (hb hby D12_43) rfl rfl ?_
    exact Steps.refl _)
  obtain ⟨fs, hr, hrun, hended, hW, hsame⟩ := X21.leave (v := some (.ref x)) (fun h => by rw [Bd.returns] at h; cases h)
  refine ⟨_, _, c23.trans (retOut X21 hx Bd.returns rfl (Or.inr (Or.inr (Or.inr (Or.inr ⟨rfl, rfl, rfl⟩)))) (hb hby D12_44) hr), hrun, hended, _, _, rfl, ?_, ⟨_, rfl⟩, hW, hsame.mono (by first | decide | exact Nat.le_of_ble_eq_true rfl) (by first | decide | exact Nat.le_of_ble_eq_true rfl)⟩
  show QAp Z x t kb (as ++ cs) h0 n0 _ T21.heap _
  rw [e21]
  have Fq := Fw21
  rw [← List.length_append] at Fq
  exact ⟨rfl, N21, K21, ((Bx.1.keep Kq15).wr W21), ((Bx.2.1.keep Kq15 (ninS (Ne.symm (Ne.symm (Exa.neArv Bx.1 Bx.2.2.2.2.1 (ww hw 72 rfl)))) nin0)).other W21 (Or.inr (slot_ne (Or.inl (ww hw 86 rfl)) (Or.inl (ww hw 110 rfl)) (by decide) (t := (.array .byte)) (t' := .int) (by decide) (by decide)))), ((Bx.2.2.1.keep Kq15 (ninS (Ne.symm (Ne.symm (Exa.neArv Bx.1 Bx.2.2.2.2.1 (ww hw 72 rfl)))) nin0)).other W21 (Or.inr (slot_ne (Or.inl (ww hw 88 rfl)) (Or.inl (ww hw 110 rfl)) (by decide) (t := .byte) (t' := .int) (by decide) (by decide)))), Fq, (Vt15.other W21 (Ne.symm (Exa.neArv Bx.1 Bx.2.2.2.2.1 (ww hw 72 rfl)))), own_app Bx.2.2.2.2.2.1 Sx.2.2.2.2.1, by rw [List.length_append]; exact hl⟩

theorem D13_0 : decode jdk_67_method_7_code 0 = .ok (.aload_n 0, 1) := by decide +kernel
theorem D13_1 : decode jdk_67_method_7_code 1 = .ok (.aload_n 1, 1) := by decide +kernel
theorem pd_oLjavaslangsStringecLjavaslangsAbstractStringBuildere : parseMethodDescriptor "(Ljava/lang/String;)Ljava/lang/AbstractStringBuilder;" = some ⟨[(.object "java/lang/String")], some (.object "java/lang/AbstractStringBuilder")⟩ := by decide +kernel
theorem D13_2 : decode jdk_67_method_7_code 2 = .ok (.invokespecial 29, 3) := by decide +kernel
theorem D13_5 : decode jdk_67_method_7_code 5 = .ok (.pop, 1) := by decide +kernel
theorem D13_6 : decode jdk_67_method_7_code 6 = .ok (.aload_n 0, 1) := by decide +kernel
theorem D13_7 : decode jdk_67_method_7_code 7 = .ok (.areturn, 1) := by decide +kernel
theorem ef_rmSA (m : MethodId) (x0 : Addr) (x1 : Addr) : entryFrame m #[(.ref x0), (.ref x1)] 2 = mkF m 0 #[.val (.ref x0), .val (.ref x1)] [] := by first | (simp [entryFrame, mkF, argsToLocals, Value.category]; done) | rfl
set_option maxRecDepth 65536 in
set_option maxHeartbeats 40000000 in
theorem rmSA (l : Launch) (Z : State) (a0 : Array Value) (hw : ∀ d ∈ tables_1, d.before a0 Z = true) (ws : List Jvm.Cond) (x t : Addr) (kb : ClassId) (as : List Int32) (sx tx : Addr) (kx : ClassId) (cs : List Int32) (G1 : Int32) (h0 : Heap) (n0 : Nat) (Z0 : n0 ≤ h0.size) (g_x : n0 ≤ x) (g_t : n0 ≤ t) (hl : as.length + cs.length ≤ 16) (Bx : SBO Z h0 x t kb as) (Sx : OStr Z h0 sx tx kx cs) (O2 : Sta Z Z.heap "java/lang/String" "COMPACT_STRINGS" "Z" (.int G1)) (P5 : ¬ G1 = 0) (X00 : Old Z n0 h0) :
    MetFree l (⟨"java/lang/StringBuilder", "append", "(Ljava/lang/String;)Ljava/lang/StringBuilder;"⟩ : MethodName) (head1 (Jvm.Cond.code (⟨"java/lang/StringBuilder", "append", "(Ljava/lang/String;)Ljava/lang/StringBuilder;"⟩ : MethodName) jdk_67_method_7_code 2 (some (.object "java/lang/StringBuilder")) :: ws) ({ frames := 4, cells := 0, slots := 0, locals := 83 } : Room)) (fun aa U => aa = #[(.ref x), (.ref sx)] ∧ Z.Warmed39 U.vm ∧ U.heap = h0) (fun _ _ _ _ _ => True) (fun _ U o U' => ∃ v L, o = .returned v ∧ QAp Z x t kb (as ++ cs) h0 n0 v U'.heap L ∧ FrameEnd U o U' L ({ frames := 4, cells := 0, slots := 0, locals := 83 } : Room).cells ({ frames := 4, cells := 0, slots := 0, locals := 83 } : Room).slots) := by
  refine MetFree.of_bodySF (plainFor_of_name pn_java_lang_StringBuilder) hisR ?_
  intro p e s m args below meth c s₁ Bd hml0 hP hK
  obtain ⟨rfl, hZ, hh⟩ := hP
  have hx := Bd.exec
  have hby := Bd.bytes
  have hml : c.maxLocals = 2 := hml0
  have hown : s.vm.findClass "java/lang/StringBuilder" = some m.cls := findClass_of_methodNamed Bd.named
  have hnm := (name_of_methodNamed Bd.named Bd.method).1
  have X0 : Stand p l e ({ frames := 4, cells := 0, slots := 0, locals := 83 } : Room) s m #[(.ref x), (.ref sx)] below meth c s₁ [] 0 0 := Stand.of_body Bd
  have e0 : s₁.heap = h0 := by rw [← hh, Bd.state]; rfl
  have N0 := Fr.nil n0
  have K0 := Keep.refl h0 [x, t]
  obtain ⟨S0, hS0⟩ : ∃ z, z = s₁.setTop (entryFrame m #[(.ref x), (.ref sx)] 2) := ⟨_, rfl⟩
  rw [← hS0]
  have c0 : SS p e below S0 (s₁.setTop (mkF m 0 #[vr x, vr sx] [])) := by
    rw [hS0]; exact castTop (ef_rmSA m x sx) (Steps.refl _)
  have c1 : SS p e below S0 (s₁.setTop (mkF m 2 #[vr x, vr sx] [(.ref sx), (.ref x)])) := c0.trans (by
    show SS p e below (s₁.setTop (mkF m 0 #[vr x, vr sx] [])) _
    refine XS.aloadN X0.here hx rfl (hb hby D13_0) rfl rfl ?_
    refine XS.aloadN X0.here hx rfl (hb hby D13_1) rfl rfl ?_
    exact Steps.refl _)
  obtain ⟨_, _, ⟨T2, L2, kk2, nn2⟩, -, X2, ⟨Lc2, hQ2, l2, y2, z2⟩, st2⟩ := superBack X0 hx hZ (y := (⟨"java/lang/AbstractStringBuilder", "append", "(Ljava/lang/String;)Ljava/lang/AbstractStringBuilder;"⟩ : MethodName)) hown (ww hw 94 rfl) (own_same (C := "java/lang/StringBuilder") (y := (⟨"java/lang/AbstractStringBuilder", "append", "(Ljava/lang/String;)Ljava/lang/AbstractStringBuilder;"⟩ : MethodName)) (y2 := (⟨"java/lang/AbstractStringBuilder", "getValue", "()[B"⟩ : MethodName)) rfl (by decide) (ww hw 95 rfl) (ww hw 151 rfl) (ww hw 152 rfl)) (ww hw 95 rfl) (ww hw 96 rfl) (by decide) (backOf (W := 0) (rmAA l Z a0 hw [] x t kb as sx tx kx cs G1 h0 n0 Z0 g_x g_t hl Bx Sx O2 P5 X00) hZ (ww hw 98 rfl) (ww hw 81 rfl) (by decide) (by decide)) e0 (Ins.self Bx.1) (g := (mkF m 2 #[vr x, vr sx] [(.ref sx), (.ref x)])) rfl (by rw [hml]; rfl) (ww hw 98 rfl) (argsL := [(.ref sx)]) (rest := []) (lenOf pd_oLjavaslangsStringecLjavaslangsAbstractStringBuildere rfl) rfl (by show 2 * 0 + _ ≤ _; exact Nat.le_of_eq rfl) (hb hby D13_2) (fun _ _ => ⟨rfl, e0, (by decide : 0 + 0 ≤ _), (by decide : 0 + 0 ≤ _)⟩)
  dsimp only [Pt.U, Pt.locs, Pt.cells, Pt.slots] at X2 l2 y2 z2 st2 hQ2
  subst l2 y2 z2
  obtain ⟨rfl, Nq2, Kq2, Bq2⟩ := hQ2
  have c3 : SS p e below S0 (T2.setTop (mkF m 5 #[vr x, vr sx] [(.ref x)])) := c1.trans (st2)
  have N2 := Fr.app N0 Nq2
  have z2 : n0 ≤ T2.heap.size := Nat.le_trans Z0 Kq2.1
  have K2 := K0.trans Kq2 (allS (Or.inl (by simp)) (allS (Or.inl (by simp)) all0))
  have c4 : SS p e below S0 (T2.setTop (mkF m 7 #[vr x, vr sx] [(.ref x)])) := c3.trans (by
    show SS p e below (T2.setTop (mkF m 5 #[vr x, vr sx] [(.ref x)])) _
    refine XS.pop X2.here hx rfl (hb hby D13_5) rfl rfl ?_
    refine XS.aloadN X2.here hx rfl (hb hby D13_6) rfl rfl ?_
    exact Steps.refl _)
  obtain ⟨fs, hr, hrun, hended, hW, hsame⟩ := X2.leave (v := some (.ref x)) (fun h => by rw [Bd.returns] at h; cases h)
  refine ⟨_, _, c4.trans (retOut X2 hx Bd.returns rfl (Or.inr (Or.inr (Or.inr (Or.inr ⟨rfl, rfl, rfl⟩)))) (hb hby D13_7) hr), hrun, hended, _, _, rfl, ?_, ⟨_, rfl⟩, hW, hsame.mono (by first | decide | exact Nat.le_of_ble_eq_true rfl) (by first | decide | exact Nat.le_of_ble_eq_true rfl)⟩
  show QAp Z x t kb (as ++ cs) h0 n0 _ T2.heap _
  exact ⟨rfl, N2, K2, Bq2⟩

theorem D14_0 : decode jdk_68_method_6_code 0 = .ok (.aload_n 0, 1) := by decide +kernel
theorem D14_1 : decode jdk_68_method_6_code 1 = .ok (.getfield 79, 3) := by decide +kernel
theorem D14_4 : decode jdk_68_method_6_code 4 = .ok (.ireturn, 1) := by decide +kernel
theorem ef_rmAL (m : MethodId) (x0 : Addr) : entryFrame m #[(.ref x0)] 1 = mkF m 0 #[.val (.ref x0)] [] := by first | (simp [entryFrame, mkF, argsToLocals, Value.category]; done) | rfl
set_option maxRecDepth 65536 in
set_option maxHeartbeats 40000000 in
theorem rmAL (l : Launch) (Z : State) (a0 : Array Value) (hw : ∀ d ∈ tables_1, d.before a0 Z = true) (ws : List Jvm.Cond) (x t : Addr) (kb : ClassId) (as : List Int32)  (h0 : Heap) (n0 : Nat) (Z0 : n0 ≤ h0.size) (Bx : SBO Z h0 x t kb as)  :
    MetFree l (⟨"java/lang/AbstractStringBuilder", "length", "()I"⟩ : MethodName) (head1 (Jvm.Cond.code (⟨"java/lang/AbstractStringBuilder", "length", "()I"⟩ : MethodName) jdk_68_method_6_code 1 (some .int) :: ws) ({ frames := 0, cells := 0, slots := 0, locals := 0 } : Room)) (fun aa U => aa = #[(.ref x)] ∧ Z.Warmed39 U.vm ∧ U.heap = h0) (fun _ _ _ _ _ => True) (fun _ U o U' => ∃ v L, o = .returned v ∧ QInt Z (Int32.ofNat as.length) h0 n0 v U'.heap L ∧ FrameEnd U o U' L ({ frames := 0, cells := 0, slots := 0, locals := 0 } : Room).cells ({ frames := 0, cells := 0, slots := 0, locals := 0 } : Room).slots) := by
  refine MetFree.of_bodySF (plainFor_of_name pn_java_lang_AbstractStringBuilder) hisR ?_
  intro p e s m args below meth c s₁ Bd hml0 hP hK
  obtain ⟨rfl, hZ, hh⟩ := hP
  have hx := Bd.exec
  have hby := Bd.bytes
  have hml : c.maxLocals = 1 := hml0
  have hown : s.vm.findClass "java/lang/AbstractStringBuilder" = some m.cls := findClass_of_methodNamed Bd.named
  have hnm := (name_of_methodNamed Bd.named Bd.method).1
  have X0 : Stand p l e ({ frames := 0, cells := 0, slots := 0, locals := 0 } : Room) s m #[(.ref x)] below meth c s₁ [] 0 0 := Stand.of_body Bd
  have e0 : s₁.heap = h0 := by rw [← hh, Bd.state]; rfl
  have N0 := Fr.nil n0
  have K0 := Keep.refl h0 []
  obtain ⟨S0, hS0⟩ : ∃ z, z = s₁.setTop (entryFrame m #[(.ref x)] 1) := ⟨_, rfl⟩
  rw [← hS0]
  have c0 : SS p e below S0 (s₁.setTop (mkF m 0 #[vr x] [])) := by
    rw [hS0]; exact castTop (ef_rmAL m x) (Steps.refl _)
  have c1 : SS p e below S0 (s₁.setTop (mkF m 1 #[vr x] [(.ref x)])) := c0.trans (by
    show SS p e below (s₁.setTop (mkF m 0 #[vr x] [])) _
    refine XS.aloadN X0.here hx rfl (hb hby D14_0) rfl rfl ?_
    exact Steps.refl _)
  obtain ⟨T2, X2, e2, st2⟩ := getF X0 hx hZ hown (host := "") (Or.inl (ww hw 109 rfl)) Via.refl e0 Bx.2.2.2.1 (g := (mkF m 1 #[vr x] [(.ref x)])) rfl rfl (hb hby D14_1)
  have c3 : SS p e below S0 (T2.setTop (mkF m 4 #[vr x] [(.int (Int32.ofNat as.length))])) := c1.trans (st2 _ (Steps.refl _))
  obtain ⟨fs, hr, hrun, hended, hW, hsame⟩ := X2.leave (v := some (.int (Int32.ofNat as.length))) (fun h => by rw [Bd.returns] at h; cases h)
  refine ⟨_, _, c3.trans (retOut X2 hx Bd.returns rfl (Or.inl ⟨rfl, by simp, _, rfl⟩) (hb hby D14_4) hr), hrun, hended, _, _, rfl, ?_, ⟨_, rfl⟩, hW, hsame.mono (by first | decide | exact Nat.le_of_ble_eq_true rfl) (by first | decide | exact Nat.le_of_ble_eq_true rfl)⟩
  show QInt Z (Int32.ofNat as.length) h0 n0 _ T2.heap _
  rw [e2]
  exact ⟨rfl, N0, rfl⟩

theorem D15_0 : decode jdk_67_method_93_code 0 = .ok (.aload_n 0, 1) := by decide +kernel
theorem D15_1 : decode jdk_67_method_93_code 1 = .ok (.invokespecial 343, 3) := by decide +kernel
theorem D15_4 : decode jdk_67_method_93_code 4 = .ok (.ireturn, 1) := by decide +kernel
theorem ef_rmSL (m : MethodId) (x0 : Addr) : entryFrame m #[(.ref x0)] 1 = mkF m 0 #[.val (.ref x0)] [] := by first | (simp [entryFrame, mkF, argsToLocals, Value.category]; done) | rfl
set_option maxRecDepth 65536 in
set_option maxHeartbeats 40000000 in
theorem rmSL (l : Launch) (Z : State) (a0 : Array Value) (hw : ∀ d ∈ tables_1, d.before a0 Z = true) (ws : List Jvm.Cond) (x t : Addr) (kb : ClassId) (as : List Int32)  (h0 : Heap) (n0 : Nat) (Z0 : n0 ≤ h0.size) (Bx : SBO Z h0 x t kb as)  :
    MetFree l (⟨"java/lang/StringBuilder", "length", "()I"⟩ : MethodName) (head1 (Jvm.Cond.code (⟨"java/lang/StringBuilder", "length", "()I"⟩ : MethodName) jdk_67_method_93_code 1 (some .int) :: ws) ({ frames := 1, cells := 0, slots := 0, locals := 12 } : Room)) (fun aa U => aa = #[(.ref x)] ∧ Z.Warmed39 U.vm ∧ U.heap = h0) (fun _ _ _ _ _ => True) (fun _ U o U' => ∃ v L, o = .returned v ∧ QInt Z (Int32.ofNat as.length) h0 n0 v U'.heap L ∧ FrameEnd U o U' L ({ frames := 1, cells := 0, slots := 0, locals := 12 } : Room).cells ({ frames := 1, cells := 0, slots := 0, locals := 12 } : Room).slots) := by
  refine MetFree.of_bodySF (plainFor_of_name pn_java_lang_StringBuilder) hisR ?_
  intro p e s m args below meth c s₁ Bd hml0 hP hK
  obtain ⟨rfl, hZ, hh⟩ := hP
  have hx := Bd.exec
  have hby := Bd.bytes
  have hml : c.maxLocals = 1 := hml0
  have hown : s.vm.findClass "java/lang/StringBuilder" = some m.cls := findClass_of_methodNamed Bd.named
  have hnm := (name_of_methodNamed Bd.named Bd.method).1
  have X0 : Stand p l e ({ frames := 1, cells := 0, slots := 0, locals := 12 } : Room) s m #[(.ref x)] below meth c s₁ [] 0 0 := Stand.of_body Bd
  have e0 : s₁.heap = h0 := by rw [← hh, Bd.state]; rfl
  have N0 := Fr.nil n0
  have K0 := Keep.refl h0 []
  obtain ⟨S0, hS0⟩ : ∃ z, z = s₁.setTop (entryFrame m #[(.ref x)] 1) := ⟨_, rfl⟩
  rw [← hS0]
  have c0 : SS p e below S0 (s₁.setTop (mkF m 0 #[vr x] [])) := by
    rw [hS0]; exact castTop (ef_rmSL m x) (Steps.refl _)
  have c1 : SS p e below S0 (s₁.setTop (mkF m 1 #[vr x] [(.ref x)])) := c0.trans (by
    show SS p e below (s₁.setTop (mkF m 0 #[vr x] [])) _
    refine XS.aloadN X0.here hx rfl (hb hby D15_0) rfl rfl ?_
    exact Steps.refl _)
  obtain ⟨_, _, ⟨T2, L2, kk2, nn2⟩, -, X2, ⟨Lc2, hQ2, l2, y2, z2⟩, st2⟩ := superBack X0 hx hZ (y := (⟨"java/lang/AbstractStringBuilder", "length", "()I"⟩ : MethodName)) hown (ww hw 160 rfl) (own_same (C := "java/lang/StringBuilder") (y := (⟨"java/lang/AbstractStringBuilder", "length", "()I"⟩ : MethodName)) (y2 := (⟨"java/lang/AbstractStringBuilder", "getValue", "()[B"⟩ : MethodName)) rfl (by decide) (ww hw 156 rfl) (ww hw 151 rfl) (ww hw 152 rfl)) (ww hw 156 rfl) (ww hw 96 rfl) (by decide) (backOf (W := 0) (rmAL l Z a0 hw [] x t kb as h0 n0 Z0 Bx) hZ (ww hw 161 rfl) (ww hw 81 rfl) (by decide) (by decide)) e0 (Ins.self Bx.1) (g := (mkF m 1 #[vr x] [(.ref x)])) rfl (by rw [hml]; rfl) (ww hw 161 rfl) (argsL := []) (rest := []) (lenOf pd_ocI rfl) rfl (by show 2 * 0 + _ ≤ _; exact Nat.le_of_eq rfl) (hb hby D15_1) (fun _ _ => ⟨rfl, e0, (by decide : 0 + 0 ≤ _), (by decide : 0 + 0 ≤ _)⟩)
  dsimp only [Pt.U, Pt.locs, Pt.cells, Pt.slots] at X2 l2 y2 z2 st2 hQ2
  subst l2 y2 z2
  obtain ⟨rfl, Nq2, eq2⟩ := hQ2
  have c3 : SS p e below S0 (T2.setTop (mkF m 4 #[vr x] [(.int (Int32.ofNat as.length))])) := c1.trans (st2)
  have N2 := Fr.app N0 Nq2
  obtain ⟨fs, hr, hrun, hended, hW, hsame⟩ := X2.leave (v := some (.int (Int32.ofNat as.length))) (fun h => by rw [Bd.returns] at h; cases h)
  refine ⟨_, _, c3.trans (retOut X2 hx Bd.returns rfl (Or.inl ⟨rfl, by simp, _, rfl⟩) (hb hby D15_4) hr), hrun, hended, _, _, rfl, ?_, ⟨_, rfl⟩, hW, hsame.mono (by first | decide | exact Nat.le_of_ble_eq_true rfl) (by first | decide | exact Nat.le_of_ble_eq_true rfl)⟩
  show QInt Z (Int32.ofNat as.length) h0 n0 _ T2.heap _
  rw [eq2]
  exact ⟨rfl, N2, rfl⟩

theorem D16_0 : decode jdk_68_method_68_code 0 = .ok (.getstatic 18, 3) := by decide +kernel
theorem D16_3 : decode jdk_68_method_68_code 3 = .ok (.ifCond .eq 14, 3) := by decide +kernel
theorem D16_6 : decode jdk_68_method_68_code 6 = .ok (.aload_n 0, 1) := by decide +kernel
theorem D16_7 : decode jdk_68_method_68_code 7 = .ok (.getfield 22, 3) := by decide +kernel
theorem D16_10 : decode jdk_68_method_68_code 10 = .ok (.ifCond .ne 7, 3) := by decide +kernel
theorem D16_13 : decode jdk_68_method_68_code 13 = .ok (.iconst 1, 1) := by decide +kernel
theorem D16_14 : decode jdk_68_method_68_code 14 = .ok (.goto 4, 3) := by decide +kernel
theorem D16_18 : decode jdk_68_method_68_code 18 = .ok (.ireturn, 1) := by decide +kernel
theorem ef_rmIl (m : MethodId) (x0 : Addr) : entryFrame m #[(.ref x0)] 1 = mkF m 0 #[.val (.ref x0)] [] := by first | (simp [entryFrame, mkF, argsToLocals, Value.category]; done) | rfl
set_option maxRecDepth 65536 in
set_option maxHeartbeats 40000000 in
theorem rmIl (l : Launch) (Z : State) (a0 : Array Value) (hw : ∀ d ∈ tables_1, d.before a0 Z = true) (ws : List Jvm.Cond) (x t : Addr) (kb : ClassId) (as : List Int32) (G1 : Int32) (h0 : Heap) (n0 : Nat) (Z0 : n0 ≤ h0.size) (Bx : SBO Z h0 x t kb as) (O2 : Sta Z Z.heap "java/lang/String" "COMPACT_STRINGS" "Z" (.int G1)) (P5 : ¬ G1 = 0) (X00 : Old Z n0 h0) :
    MetFree l (⟨"java/lang/AbstractStringBuilder", "isLatin1", "()Z"⟩ : MethodName) (head1 (Jvm.Cond.code (⟨"java/lang/AbstractStringBuilder", "isLatin1", "()Z"⟩ : MethodName) jdk_68_method_68_code 1 (some .boolean) :: ws) ({ frames := 0, cells := 0, slots := 0, locals := 0 } : Room)) (fun aa U => aa = #[(.ref x)] ∧ Z.Warmed39 U.vm ∧ U.heap = h0) (fun _ _ _ _ _ => True) (fun _ U o U' => ∃ v L, o = .returned v ∧ QInt Z 1 h0 n0 v U'.heap L ∧ FrameEnd U o U' L ({ frames := 0, cells := 0, slots := 0, locals := 0 } : Room).cells ({ frames := 0, cells := 0, slots := 0, locals := 0 } : Room).slots) := by
  refine MetFree.of_bodySF (plainFor_of_name pn_java_lang_AbstractStringBuilder) hisR ?_
  intro p e s m args below meth c s₁ Bd hml0 hP hK
  obtain ⟨rfl, hZ, hh⟩ := hP
  have hx := Bd.exec
  have hby := Bd.bytes
  have hml : c.maxLocals = 1 := hml0
  have hown : s.vm.findClass "java/lang/AbstractStringBuilder" = some m.cls := findClass_of_methodNamed Bd.named
  have hnm := (name_of_methodNamed Bd.named Bd.method).1
  have X0 : Stand p l e ({ frames := 0, cells := 0, slots := 0, locals := 0 } : Room) s m #[(.ref x)] below meth c s₁ [] 0 0 := Stand.of_body Bd
  have e0 : s₁.heap = h0 := by rw [← hh, Bd.state]; rfl
  have N0 := Fr.nil n0
  have K0 := Keep.refl h0 []
  obtain ⟨S0, hS0⟩ : ∃ z, z = s₁.setTop (entryFrame m #[(.ref x)] 1) := ⟨_, rfl⟩
  rw [← hS0]
  have c0 : SS p e below S0 (s₁.setTop (mkF m 0 #[vr x] [])) := by
    rw [hS0]; exact castTop (ef_rmIl m x) (Steps.refl _)
  obtain ⟨T1, X1, e1, st1⟩ := getS2 X0 hx hZ hown (host := "") (Or.inl (ww hw 84 rfl)) Via.refl e0 (O2.ext X00.2) (g := (mkF m 0 #[vr x] [])) rfl (hb hby D16_0)
  have c2 : SS p e below S0 (T1.setTop (mkF m 3 #[vr x] [(.int G1)])) := c0.trans (st1 _ (Steps.refl _))
  have c3 : SS p e below S0 (T1.setTop (mkF m 7 #[vr x] [(.ref x)])) := c2.trans (by
    show SS p e below (T1.setTop (mkF m 3 #[vr x] [(.int G1)])) _
    refine XS.ifNo X1.here hx rfl (hb hby D16_3) rfl ((if0 _ _).trans (feq P5).1) ?_
    refine XS.aloadN X1.here hx rfl (hb hby D16_6) rfl rfl ?_
    exact Steps.refl _)
  obtain ⟨T4, X4, e4, st4⟩ := getF X1 hx hZ hown (host := "") (Or.inl (ww hw 87 rfl)) Via.refl e1 Bx.2.2.1 (g := (mkF m 7 #[vr x] [(.ref x)])) rfl rfl (hb hby D16_7)
  have c5 : SS p e below S0 (T4.setTop (mkF m 10 #[vr x] [(.int 0)])) := c3.trans (st4 _ (Steps.refl _))
  have c6 : SS p e below S0 (T4.setTop (mkF m 18 #[vr x] [(.int 1)])) := c5.trans (by
    show SS p e below (T4.setTop (mkF m 10 #[vr x] [(.int 0)])) _
    refine XS.ifNo X4.here hx rfl (hb hby D16_10) rfl ((if0 _ _).trans (teq (by decide : ((0 : Int32) = (0 : Int32)))).2) ?_
    refine XS.iconst X4.here hx rfl (hb hby D16_13) ?_
    refine XS.goto X4.here hx rfl (pc0 := 14) (pc' := 18) rfl (hb hby D16_14) (by decide) (by decide) ?_
    exact Steps.refl _)
  obtain ⟨fs, hr, hrun, hended, hW, hsame⟩ := X4.leave (v := some (.int 1)) (fun h => by rw [Bd.returns] at h; cases h)
  refine ⟨_, _, c6.trans (retOut X4 hx Bd.returns rfl (Or.inl ⟨rfl, by simp, _, rfl⟩) (hb hby D16_18) hr), hrun, hended, _, _, rfl, ?_, ⟨_, rfl⟩, hW, hsame.mono (by first | decide | exact Nat.le_of_ble_eq_true rfl) (by first | decide | exact Nat.le_of_ble_eq_true rfl)⟩
  show QInt Z 1 h0 n0 _ T4.heap _
  rw [e4]
  exact ⟨rfl, N0, rfl⟩

theorem D17_0 : decode jdk_68_method_64_code 0 = .ok (.aload_n 0, 1) := by decide +kernel
theorem D17_1 : decode jdk_68_method_64_code 1 = .ok (.getfield 15, 3) := by decide +kernel
theorem D17_4 : decode jdk_68_method_64_code 4 = .ok (.areturn, 1) := by decide +kernel
theorem ef_rmGV (m : MethodId) (x0 : Addr) : entryFrame m #[(.ref x0)] 1 = mkF m 0 #[.val (.ref x0)] [] := by first | (simp [entryFrame, mkF, argsToLocals, Value.category]; done) | rfl
set_option maxRecDepth 65536 in
set_option maxHeartbeats 40000000 in
theorem rmGV (l : Launch) (Z : State) (a0 : Array Value) (hw : ∀ d ∈ tables_1, d.before a0 Z = true) (ws : List Jvm.Cond) (x t : Addr) (kb : ClassId) (as : List Int32)  (h0 : Heap) (n0 : Nat) (Z0 : n0 ≤ h0.size) (Bx : SBO Z h0 x t kb as)  :
    MetFree l (⟨"java/lang/AbstractStringBuilder", "getValue", "()[B"⟩ : MethodName) (head1 (Jvm.Cond.code (⟨"java/lang/AbstractStringBuilder", "getValue", "()[B"⟩ : MethodName) jdk_68_method_64_code 1 (some (.array .byte)) :: ws) ({ frames := 0, cells := 0, slots := 0, locals := 0 } : Room)) (fun aa U => aa = #[(.ref x)] ∧ Z.Warmed39 U.vm ∧ U.heap = h0) (fun _ _ _ _ _ => True) (fun _ U o U' => ∃ v L, o = .returned v ∧ QRef Z t h0 n0 v U'.heap L ∧ FrameEnd U o U' L ({ frames := 0, cells := 0, slots := 0, locals := 0 } : Room).cells ({ frames := 0, cells := 0, slots := 0, locals := 0 } : Room).slots) := by
  refine MetFree.of_bodySF (plainFor_of_name pn_java_lang_AbstractStringBuilder) hisR ?_
  intro p e s m args below meth c s₁ Bd hml0 hP hK
  obtain ⟨rfl, hZ, hh⟩ := hP
  have hx := Bd.exec
  have hby := Bd.bytes
  have hml : c.maxLocals = 1 := hml0
  have hown : s.vm.findClass "java/lang/AbstractStringBuilder" = some m.cls := findClass_of_methodNamed Bd.named
  have hnm := (name_of_methodNamed Bd.named Bd.method).1
  have X0 : Stand p l e ({ frames := 0, cells := 0, slots := 0, locals := 0 } : Room) s m #[(.ref x)] below meth c s₁ [] 0 0 := Stand.of_body Bd
  have e0 : s₁.heap = h0 := by rw [← hh, Bd.state]; rfl
  have N0 := Fr.nil n0
  have K0 := Keep.refl h0 []
  obtain ⟨S0, hS0⟩ : ∃ z, z = s₁.setTop (entryFrame m #[(.ref x)] 1) := ⟨_, rfl⟩
  rw [← hS0]
  have c0 : SS p e below S0 (s₁.setTop (mkF m 0 #[vr x] [])) := by
    rw [hS0]; exact castTop (ef_rmGV m x) (Steps.refl _)
  have c1 : SS p e below S0 (s₁.setTop (mkF m 1 #[vr x] [(.ref x)])) := c0.trans (by
    show SS p e below (s₁.setTop (mkF m 0 #[vr x] [])) _
    refine XS.aloadN X0.here hx rfl (hb hby D17_0) rfl rfl ?_
    exact Steps.refl _)
  obtain ⟨T2, X2, e2, st2⟩ := getF X0 hx hZ hown (host := "") (Or.inl (ww hw 85 rfl)) Via.refl e0 Bx.2.1 (g := (mkF m 1 #[vr x] [(.ref x)])) rfl rfl (hb hby D17_1)
  have c3 : SS p e below S0 (T2.setTop (mkF m 4 #[vr x] [(.ref t)])) := c1.trans (st2 _ (Steps.refl _))
  obtain ⟨fs, hr, hrun, hended, hW, hsame⟩ := X2.leave (v := some (.ref t)) (fun h => by rw [Bd.returns] at h; cases h)
  refine ⟨_, _, c3.trans (retOut X2 hx Bd.returns rfl (Or.inr (Or.inr (Or.inr (Or.inr ⟨rfl, rfl, rfl⟩)))) (hb hby D17_4) hr), hrun, hended, _, _, rfl, ?_, ⟨_, rfl⟩, hW, hsame.mono (by first | decide | exact Nat.le_of_ble_eq_true rfl) (by first | decide | exact Nat.le_of_ble_eq_true rfl)⟩
  show QRef Z t h0 n0 _ T2.heap _
  rw [e2]
  exact ⟨rfl, N0, rfl⟩

theorem D18_0 : decode jdk_65_method_131_code 0 = .ok (.iload_n 1, 1) := by decide +kernel
theorem D18_1 : decode jdk_65_method_131_code 1 = .ok (.iload_n 0, 1) := by decide +kernel
theorem D18_2 : decode jdk_65_method_131_code 2 = .ok (.if_icmp .ge 35, 3) := by decide +kernel
theorem D18_37 : decode jdk_65_method_131_code 37 = .ok (.return_, 1) := by decide +kernel
theorem pn_java_util_Arrays : plainName "java/util/Arrays" = true := by first | (simp [plainName, overriddenIn]; done) | decide +kernel
theorem ef_rmCk (m : MethodId) (x0 : Int32) (x1 : Int32) : entryFrame m #[(.int x0), (.int x1)] 2 = mkF m 0 #[.val (.int x0), .val (.int x1)] [] := by first | (simp [entryFrame, mkF, argsToLocals, Value.category]; done) | rfl
set_option maxRecDepth 65536 in
set_option maxHeartbeats 40000000 in
theorem rmCk (l : Launch) (Z : State) (a0 : Array Value) (hw : ∀ d ∈ tables_1, d.before a0 Z = true) (ws : List Jvm.Cond) (n : Nat) (h0 : Heap) (n0 : Nat) (Z0 : n0 ≤ h0.size) (hn : n ≤ 16) :
    MetFree l (⟨"java/util/Arrays", "checkLength", "(II)V"⟩ : MethodName) (head1 (Jvm.Cond.code (⟨"java/util/Arrays", "checkLength", "(II)V"⟩ : MethodName) jdk_65_method_131_code 2 (none) :: ws) ({ frames := 0, cells := 0, slots := 0, locals := 0 } : Room)) (fun aa U => aa = #[(.int 0), (.int (Int32.ofNat n))] ∧ Z.Warmed39 U.vm ∧ U.heap = h0) (fun _ _ _ _ _ => True) (fun _ U o U' => ∃ v L, o = .returned v ∧ QNo Z  h0 n0 v U'.heap L ∧ FrameEnd U o U' L ({ frames := 0, cells := 0, slots := 0, locals := 0 } : Room).cells ({ frames := 0, cells := 0, slots := 0, locals := 0 } : Room).slots) := by
  refine MetFree.of_bodySF (plainFor_of_name pn_java_util_Arrays) hisR ?_
  intro p e s m args below meth c s₁ Bd hml0 hP hK
  obtain ⟨rfl, hZ, hh⟩ := hP
  have hx := Bd.exec
  have hby := Bd.bytes
  have hml : c.maxLocals = 2 := hml0
  have hown : s.vm.findClass "java/util/Arrays" = some m.cls := findClass_of_methodNamed Bd.named
  have hnm := (name_of_methodNamed Bd.named Bd.method).1
  have X0 : Stand p l e ({ frames := 0, cells := 0, slots := 0, locals := 0 } : Room) s m #[(.int 0), (.int (Int32.ofNat n))] below meth c s₁ [] 0 0 := Stand.of_body Bd
  have e0 : s₁.heap = h0 := by rw [← hh, Bd.state]; rfl
  have N0 := Fr.nil n0
  have K0 := Keep.refl h0 []
  obtain ⟨S0, hS0⟩ : ∃ z, z = s₁.setTop (entryFrame m #[(.int 0), (.int (Int32.ofNat n))] 2) := ⟨_, rfl⟩
  rw [← hS0]
  have c0 : SS p e below S0 (s₁.setTop (mkF m 0 #[vi 0, vi (Int32.ofNat n)] [])) := by
    rw [hS0]; exact castTop (ef_rmCk m (0 : Int32) (Int32.ofNat n)) (Steps.refl _)
  have c1 : SS p e below S0 (s₁.setTop (mkF m 37 #[vi 0, vi (Int32.ofNat n)] [])) := c0.trans (by
    show SS p e below (s₁.setTop (mkF m 0 #[vi 0, vi (Int32.ofNat n)] [])) _
    refine XS.iloadN X0.here hx rfl (hb hby D18_0) rfl ?_
    refine XS.iloadN X0.here hx rfl (hb hby D18_1) rfl ?_
    refine XS.icmpYes X0.here hx rfl (pc0 := 2) (pc' := 37) rfl (hb hby D18_2) rfl (flt (own_nn (by omega) : ¬ (Int32.ofNat n) < (0 : Int32))).2.1 (by decide) (by decide) ?_
    exact Steps.refl _)
  obtain ⟨fs, hr, hrun, hended, hW, hsame⟩ := X0.leave (v := none) (fun h => rfl)
  refine ⟨_, _, c1.trans (X0.returnOut hx Bd.returns (hb hby D18_37) hr), hrun, hended, _, _, rfl, ?_, ⟨_, rfl⟩, hW, hsame.mono (by first | decide | exact Nat.le_of_ble_eq_true rfl) (by first | decide | exact Nat.le_of_ble_eq_true rfl)⟩
  show QNo Z  h0 n0 _ s₁.heap _
  rw [e0]
  exact ⟨rfl, N0, rfl⟩

theorem D19_0 : decode jdk_29_method_69_code 0 = .ok (.iload_n 0, 1) := by decide +kernel
theorem D19_1 : decode jdk_29_method_69_code 1 = .ok (.iload_n 1, 1) := by decide +kernel
theorem D19_2 : decode jdk_29_method_69_code 2 = .ok (.if_icmp .gt 7, 3) := by decide +kernel
theorem D19_9 : decode jdk_29_method_69_code 9 = .ok (.iload_n 1, 1) := by decide +kernel
theorem D19_10 : decode jdk_29_method_69_code 10 = .ok (.ireturn, 1) := by decide +kernel
theorem D19_5 : decode jdk_29_method_69_code 5 = .ok (.iload_n 0, 1) := by decide +kernel
theorem D19_6 : decode jdk_29_method_69_code 6 = .ok (.goto 4, 3) := by decide +kernel
theorem ef_rmMn (m : MethodId) (x0 : Int32) (x1 : Int32) : entryFrame m #[(.int x0), (.int x1)] 2 = mkF m 0 #[.val (.int x0), .val (.int x1)] [] := by first | (simp [entryFrame, mkF, argsToLocals, Value.category]; done) | rfl
set_option maxRecDepth 65536 in
set_option maxHeartbeats 40000000 in
theorem rmMn (l : Launch) (Z : State) (a0 : Array Value) (hw : ∀ d ∈ tables_1, d.before a0 Z = true) (ws : List Jvm.Cond) (i j : Int32) (h0 : Heap) (n0 : Nat) (Z0 : n0 ≤ h0.size)  :
    MetFree l (⟨"java/lang/Math", "min", "(II)I"⟩ : MethodName) (head1 (Jvm.Cond.code (⟨"java/lang/Math", "min", "(II)I"⟩ : MethodName) jdk_29_method_69_code 2 (some .int) :: ws) ({ frames := 0, cells := 0, slots := 0, locals := 0 } : Room)) (fun aa U => aa = #[(.int i), (.int j)] ∧ Z.Warmed39 U.vm ∧ U.heap = h0) (fun _ _ _ _ _ => True) (fun _ U o U' => ∃ v L, o = .returned v ∧ QInt Z (if j < i then j else i) h0 n0 v U'.heap L ∧ FrameEnd U o U' L ({ frames := 0, cells := 0, slots := 0, locals := 0 } : Room).cells ({ frames := 0, cells := 0, slots := 0, locals := 0 } : Room).slots) := by
  refine MetFree.of_bodySF (by decide +kernel) hisR ?_
  intro p e s m args below meth c s₁ Bd hml0 hP hK
  obtain ⟨rfl, hZ, hh⟩ := hP
  have hx := Bd.exec
  have hby := Bd.bytes
  have hml : c.maxLocals = 2 := hml0
  have hown : s.vm.findClass "java/lang/Math" = some m.cls := findClass_of_methodNamed Bd.named
  have hnm := (name_of_methodNamed Bd.named Bd.method).1
  have X0 : Stand p l e ({ frames := 0, cells := 0, slots := 0, locals := 0 } : Room) s m #[(.int i), (.int j)] below meth c s₁ [] 0 0 := Stand.of_body Bd
  have e0 : s₁.heap = h0 := by rw [← hh, Bd.state]; rfl
  have N0 := Fr.nil n0
  have K0 := Keep.refl h0 []
  obtain ⟨S0, hS0⟩ : ∃ z, z = s₁.setTop (entryFrame m #[(.int i), (.int j)] 2) := ⟨_, rfl⟩
  rw [← hS0]
  have c0 : SS p e below S0 (s₁.setTop (mkF m 0 #[vi i, vi j] [])) := by
    rw [hS0]; exact castTop (ef_rmMn m i j) (Steps.refl _)
  have c1 : SS p e below S0 (s₁.setTop (mkF m 2 #[vi i, vi j] [(.int j), (.int i)])) := c0.trans (by
    show SS p e below (s₁.setTop (mkF m 0 #[vi i, vi j] [])) _
    refine XS.iloadN X0.here hx rfl (hb hby D19_0) rfl ?_
    refine XS.iloadN X0.here hx rfl (hb hby D19_1) rfl ?_
    exact Steps.refl _)
  by_cases hq2 : j < i
  · have c3 : SS p e below S0 (s₁.setTop (mkF m 10 #[vi i, vi j] [(.int j)])) := c1.trans (by
      show SS p e below (s₁.setTop (mkF m 2 #[vi i, vi j] [(.int j), (.int i)])) _
      refine XS.icmpYes X0.here hx rfl (pc0 := 2) (pc' := 9) rfl (hb hby D19_2) rfl (tlt hq2).2.2.1 (by decide) (by decide) ?_
      refine XS.iloadN X0.here hx rfl (hb hby D19_9) rfl ?_
      exact Steps.refl _)
    obtain ⟨fs, hr, hrun, hended, hW, hsame⟩ := X0.leave (v := some (.int j)) (fun h => by rw [Bd.returns] at h; cases h)
    refine ⟨_, _, c3.trans (retOut X0 hx Bd.returns rfl (Or.inl ⟨rfl, by simp, _, rfl⟩) (hb hby D19_10) hr), hrun, hended, _, _, rfl, ?_, ⟨_, rfl⟩, hW, hsame.mono (by first | decide | exact Nat.le_of_ble_eq_true rfl) (by first | decide | exact Nat.le_of_ble_eq_true rfl)⟩
    show QInt Z (if j < i then j else i) h0 n0 _ s₁.heap _
    rw [e0]
    exact ⟨by rw [if_pos hq2], N0, rfl⟩
  · have c4 : SS p e below S0 (s₁.setTop (mkF m 10 #[vi i, vi j] [(.int i)])) := c1.trans (by
      show SS p e below (s₁.setTop (mkF m 2 #[vi i, vi j] [(.int j), (.int i)])) _
      refine XS.icmpNo X0.here hx rfl (hb hby D19_2) rfl (flt hq2).2.2.1 ?_
      refine XS.iloadN X0.here hx rfl (hb hby D19_5) rfl ?_
      refine XS.goto X0.here hx rfl (pc0 := 6) (pc' := 10) rfl (hb hby D19_6) (by decide) (by decide) ?_
      exact Steps.refl _)
    obtain ⟨fs, hr, hrun, hended, hW, hsame⟩ := X0.leave (v := some (.int i)) (fun h => by rw [Bd.returns] at h; cases h)
    refine ⟨_, _, c4.trans (retOut X0 hx Bd.returns rfl (Or.inl ⟨rfl, by simp, _, rfl⟩) (hb hby D19_10) hr), hrun, hended, _, _, rfl, ?_, ⟨_, rfl⟩, hW, hsame.mono (by first | decide | exact Nat.le_of_ble_eq_true rfl) (by first | decide | exact Nat.le_of_ble_eq_true rfl)⟩
    show QInt Z (if j < i then j else i) h0 n0 _ s₁.heap _
    rw [e0]
    exact ⟨by rw [if_neg hq2], N0, rfl⟩

theorem own_min {n : Nat} (h : n ≤ 16) : (if Int32.ofNat n < (16 : Int32) then Int32.ofNat n else (16 : Int32)) = Int32.ofNat n := by
  by_cases q : n = 16
  · subst q; decide
  · have q2 : Int32.ofNat n < (16 : Int32) := (own_ofN_lt (a := n) (b := 16) (by omega) (by omega)).mpr (by omega)
    rw [if_pos q2]
theorem own_padr (n : Nat) : ∀ i, (List.replicate n (Value.int 0)).getD i (.int 0) = ([] : List Value).getD i (.int 0) := by
  intro i
  simp only [List.getD_eq_getElem?_getD, List.getElem?_replicate]
  split <;> rfl

theorem D20_0 : decode jdk_65_method_133_code 0 = .ok (.iload_n 1, 1) := by decide +kernel
theorem D20_1 : decode jdk_65_method_133_code 1 = .ok (.iload_n 2, 1) := by decide +kernel
theorem pd_oIIcV : parseMethodDescriptor "(II)V" = some ⟨[.int, .int], none⟩ := by decide +kernel
theorem D20_2 : decode jdk_65_method_133_code 2 = .ok (.invokestatic 343, 3) := by decide +kernel
theorem D20_5 : decode jdk_65_method_133_code 5 = .ok (.iload_n 2, 1) := by decide +kernel
theorem D20_6 : decode jdk_65_method_133_code 6 = .ok (.iload_n 1, 1) := by decide +kernel
theorem D20_7 : decode jdk_65_method_133_code 7 = .ok (.isub, 1) := by decide +kernel
theorem D20_8 : decode jdk_65_method_133_code 8 = .ok (.istore_n 3, 1) := by decide +kernel
theorem D20_9 : decode jdk_65_method_133_code 9 = .ok (.iload_n 3, 1) := by decide +kernel
theorem D20_10 : decode jdk_65_method_133_code 10 = .ok (.newarray .byte, 2) := by decide +kernel
theorem D20_12 : decode jdk_65_method_133_code 12 = .ok (.astore 4, 2) := by decide +kernel
theorem D20_14 : decode jdk_65_method_133_code 14 = .ok (.aload_n 0, 1) := by decide +kernel
theorem D20_15 : decode jdk_65_method_133_code 15 = .ok (.iload_n 1, 1) := by decide +kernel
theorem D20_16 : decode jdk_65_method_133_code 16 = .ok (.aload 4, 2) := by decide +kernel
theorem D20_18 : decode jdk_65_method_133_code 18 = .ok (.iconst 0, 1) := by decide +kernel
theorem D20_19 : decode jdk_65_method_133_code 19 = .ok (.aload_n 0, 1) := by decide +kernel
theorem D20_20 : decode jdk_65_method_133_code 20 = .ok (.arraylength, 1) := by decide +kernel
theorem D20_21 : decode jdk_65_method_133_code 21 = .ok (.iload_n 1, 1) := by decide +kernel
theorem D20_22 : decode jdk_65_method_133_code 22 = .ok (.isub, 1) := by decide +kernel
theorem D20_23 : decode jdk_65_method_133_code 23 = .ok (.iload_n 3, 1) := by decide +kernel
theorem pd_oIIcI : parseMethodDescriptor "(II)I" = some ⟨[.int, .int], some .int⟩ := by decide +kernel
theorem D20_24 : decode jdk_65_method_133_code 24 = .ok (.invokestatic 304, 3) := by decide +kernel
theorem D20_27 : decode jdk_65_method_133_code 27 = .ok (.invokestatic 150, 3) := by decide +kernel
theorem D20_30 : decode jdk_65_method_133_code 30 = .ok (.aload 4, 2) := by decide +kernel
theorem D20_32 : decode jdk_65_method_133_code 32 = .ok (.areturn, 1) := by decide +kernel
theorem ef_rmCB (m : MethodId) (x0 : Addr) (x1 : Int32) (x2 : Int32) : entryFrame m #[(.ref x0), (.int x1), (.int x2)] 5 = mkF m 0 #[.val (.ref x0), .val (.int x1), .val (.int x2), .unset, .unset] [] := by first | (simp [entryFrame, mkF, argsToLocals, Value.category]; done) | rfl
set_option maxRecDepth 65536 in
set_option maxHeartbeats 40000000 in
theorem rmCB (l : Launch) (Z : State) (a0 : Array Value) (hw : ∀ d ∈ tables_1, d.before a0 Z = true) (ws : List Jvm.Cond) (t : Addr) (kb : ClassId) (as : List Int32) (h0 : Heap) (n0 : Nat) (Z0 : n0 ≤ h0.size) (Vt : Arv Z h0 t kb .byte (16 : Int32) (own_pad as) (.int 0)) (hl : as.length < 16) :
    MetFree l (⟨"java/util/Arrays", "copyOfRangeByte", "([BII)[B"⟩ : MethodName) (head1 (Jvm.Cond.code (⟨"java/util/Arrays", "copyOfRangeByte", "([BII)[B"⟩ : MethodName) jdk_65_method_133_code 5 (some (.array .byte)) :: ws) ({ frames := 1, cells := 1, slots := 16, locals := 40 } : Room)) (fun aa U => aa = #[(.ref t), (.int 0), (.int (Int32.ofNat as.length))] ∧ Z.Warmed39 U.vm ∧ U.heap = h0) (fun _ _ _ _ _ => True) (fun _ U o U' => ∃ v L, o = .returned v ∧ QNewB Z as h0 n0 v U'.heap L ∧ FrameEnd U o U' L ({ frames := 1, cells := 1, slots := 16, locals := 40 } : Room).cells ({ frames := 1, cells := 1, slots := 16, locals := 40 } : Room).slots) := by
  refine MetFree.of_bodySF (plainFor_of_name pn_java_util_Arrays) hisR ?_
  intro p e s m args below meth c s₁ Bd hml0 hP hK
  obtain ⟨rfl, hZ, hh⟩ := hP
  have hx := Bd.exec
  have hby := Bd.bytes
  have hml : c.maxLocals = 5 := hml0
  have hown : s.vm.findClass "java/util/Arrays" = some m.cls := findClass_of_methodNamed Bd.named
  have hnm := (name_of_methodNamed Bd.named Bd.method).1
  have X0 : Stand p l e ({ frames := 1, cells := 1, slots := 16, locals := 40 } : Room) s m #[(.ref t), (.int 0), (.int (Int32.ofNat as.length))] below meth c s₁ [] 0 0 := Stand.of_body Bd
  have e0 : s₁.heap = h0 := by rw [← hh, Bd.state]; rfl
  have N0 := Fr.nil n0
  have K0 := Keep.refl h0 []
  obtain ⟨S0, hS0⟩ : ∃ z, z = s₁.setTop (entryFrame m #[(.ref t), (.int 0), (.int (Int32.ofNat as.length))] 5) := ⟨_, rfl⟩
  rw [← hS0]
  have c0 : SS p e below S0 (s₁.setTop (mkF m 0 #[vr t, vi 0, vi (Int32.ofNat as.length), .unset, .unset] [])) := by
    rw [hS0]; exact castTop (ef_rmCB m t (0 : Int32) (Int32.ofNat as.length)) (Steps.refl _)
  have c1 : SS p e below S0 (s₁.setTop (mkF m 2 #[vr t, vi 0, vi (Int32.ofNat as.length), .unset, .unset] [(.int (Int32.ofNat as.length)), (.int 0)])) := c0.trans (by
    show SS p e below (s₁.setTop (mkF m 0 #[vr t, vi 0, vi (Int32.ofNat as.length), .unset, .unset] [])) _
    refine XS.iloadN X0.here hx rfl (hb hby D20_0) rfl ?_
    refine XS.iloadN X0.here hx rfl (hb hby D20_1) rfl ?_
    exact Steps.refl _)
  obtain ⟨_, _, ⟨T2, L2, kk2, nn2⟩, -, X2, ⟨Lc2, hQ2, l2, y2, z2⟩, st2⟩ := Jvm.LawKit.callS X0 hx (y := (⟨"java/util/Arrays", "checkLength", "(II)V"⟩ : MethodName)) hown (mvT hZ (ww hw 174 rfl)) (mvT hZ (ww hw 175 rfl)) (mvT hZ (ww hw 169 rfl)) (mvT hZ (ww hw 176 rfl)) (by decide) (backOf (W := 0) (rmCk l Z a0 hw [] as.length h0 n0 Z0 (by omega)) hZ (ww hw 176 rfl) (ww hw 169 rfl) (by decide) (by decide)) (g := (mkF m 2 #[vr t, vi 0, vi (Int32.ofNat as.length), .unset, .unset] [(.int (Int32.ofNat as.length)), (.int 0)])) rfl (by rw [hml]; rfl) (argsL := [(.int 0), (.int (Int32.ofNat as.length))]) (rest := []) (lenOf pd_oIIcV rfl) rfl (by show 2 * 0 + _ ≤ _; exact Nat.le_of_eq rfl) (hb hby D20_2) (fun _ _ => ⟨rfl, e0, (by decide : 0 + 0 ≤ _), (by decide : 0 + 0 ≤ _)⟩)
  dsimp only [Pt.U, Pt.locs, Pt.cells, Pt.slots] at X2 l2 y2 z2 st2 hQ2
  subst l2 y2 z2
  obtain ⟨rfl, Nq2, eq2⟩ := hQ2
  have c3 : SS p e below S0 (T2.setTop (mkF m 5 #[vr t, vi 0, vi (Int32.ofNat as.length), .unset, .unset] [])) := c1.trans (st2 _ (Steps.refl _))
  have N2 := Fr.app N0 Nq2
  have c4 : SS p e below S0 (T2.setTop (mkF m 8 #[vr t, vi 0, vi (Int32.ofNat as.length), .unset, .unset] [(.int ((Int32.ofNat as.length) - (0 : Int32)))])) := c3.trans (by
    show SS p e below (T2.setTop (mkF m 5 #[vr t, vi 0, vi (Int32.ofNat as.length), .unset, .unset] [])) _
    refine XS.iloadN X2.here hx rfl (hb hby D20_5) rfl ?_
    refine XS.iloadN X2.here hx rfl (hb hby D20_6) rfl ?_
    refine XS.isub X2.here hx rfl (hb hby D20_7) rfl ?_
    exact Steps.refl _)
  rw [(Int32.sub_zero (a := (Int32.ofNat as.length)))] at c4
  have c5 : SS p e below S0 (T2.setTop (mkF m 10 #[vr t, vi 0, vi (Int32.ofNat as.length), vi (Int32.ofNat as.length), .unset] [(.int (Int32.ofNat as.length))])) := c4.trans (by
    show SS p e below (T2.setTop (mkF m 8 #[vr t, vi 0, vi (Int32.ofNat as.length), .unset, .unset] [(.int (Int32.ofNat as.length))])) _
    refine XS.istoreN X2.here hx rfl (hb hby D20_8) rfl (l' := #[vr t, vi 0, vi (Int32.ofNat as.length), vi (Int32.ofNat as.length), .unset]) rfl ?_
    refine XS.iloadN X2.here hx rfl (hb hby D20_9) rfl ?_
    exact Steps.refl _)
  obtain ⟨T6, h6, k6, X6, e6, E6, A6, st6⟩ := newP X2 hx hZ (ww hw 20 rfl) eq2 (g := (mkF m 10 #[vr t, vi 0, vi (Int32.ofNat as.length), vi (Int32.ofNat as.length), .unset] [(.int (Int32.ofNat as.length))])) rfl (hb hby D20_10) rfl (own_nn (by omega)) (cap := 16) (by rw [own_nat (by omega)]; omega) (by decide) (by decide) (by decide)
  obtain ⟨b6, g6⟩ : ∃ z, z = h0.size := ⟨_, rfl⟩
  rw [← g6] at A6 st6
  have c7 : SS p e below S0 (T6.setTop (mkF m 12 #[vr t, vi 0, vi (Int32.ofNat as.length), vi (Int32.ofNat as.length), .unset] [(.ref b6)])) := c5.trans (st6 _ (Steps.refl _))
  have z6 : n0 ≤ h6.size := Nat.le_trans Z0 E6.1
  have K6 := K0.ext E6
  have V6 : Arv Z h6 b6 k6 .byte (Int32.ofNat as.length) (List.replicate as.length (.int 0)) (.int 0) := (Arv.new A6 (own_nn (by omega))).pad (own_padr as.length)
  have lt_b6 := V6.lt
  have c8 : SS p e below S0 (T6.setTop (mkF m 20 #[vr t, vi 0, vi (Int32.ofNat as.length), vi (Int32.ofNat as.length), vr b6] [(.ref t), (.int 0), (.ref b6), (.int 0), (.ref t)])) := c7.trans (by
    show SS p e below (T6.setTop (mkF m 12 #[vr t, vi 0, vi (Int32.ofNat as.length), vi (Int32.ofNat as.length), .unset] [(.ref b6)])) _
    refine XS.astore X6.here hx rfl (hb hby D20_12) rfl rfl (l' := #[vr t, vi 0, vi (Int32.ofNat as.length), vi (Int32.ofNat as.length), vr b6]) rfl ?_
    refine XS.aloadN X6.here hx rfl (hb hby D20_14) rfl rfl ?_
    refine XS.iloadN X6.here hx rfl (hb hby D20_15) rfl ?_
    refine XS.aload X6.here hx rfl (hb hby D20_16) rfl rfl ?_
    refine XS.iconst X6.here hx rfl (hb hby D20_18) ?_
    refine XS.aloadN X6.here hx rfl (hb hby D20_19) rfl rfl ?_
    exact Steps.refl _)
  obtain ⟨cl9, Ar9, -, S9, Nn9, -, -⟩ := id (Vt.ext E6)
  have c10 : SS p e below S0 (T6.setTop (mkF m 24 #[vr t, vi 0, vi (Int32.ofNat as.length), vi (Int32.ofNat as.length), vr b6] [(.int (Int32.ofNat as.length)), (.int 16), (.int 0), (.ref b6), (.int 0), (.ref t)])) := c8.trans (by
    show SS p e below (T6.setTop (mkF m 20 #[vr t, vi 0, vi (Int32.ofNat as.length), vi (Int32.ofNat as.length), vr b6] [(.ref t), (.int 0), (.ref b6), (.int 0), (.ref t)])) _
    refine X6.arraylength hx (by rw [e6]; exact Ar9.1) (State.isArrayOf_alike hZ.alike Ar9.2.1) (g := (mkF m 20 #[vr t, vi 0, vi (Int32.ofNat as.length), vi (Int32.ofNat as.length), vr b6] [(.ref t), (.int 0), (.ref b6), (.int 0), (.ref t)])) rfl rfl (hb hby D20_20) _ ?_
    rw [len_of S9 Nn9]
    refine XS.iloadN X6.here hx rfl (hb hby D20_21) rfl ?_
    refine XS.isub X6.here hx rfl (hb hby D20_22) rfl ?_
    refine XS.iloadN X6.here hx rfl (hb hby D20_23) rfl ?_
    exact Steps.refl _)
  obtain ⟨_, _, ⟨T11, L11, kk11, nn11⟩, -, X11, ⟨Lc11, hQ11, l11, y11, z11⟩, st11⟩ := Jvm.LawKit.callS X6 hx (y := (⟨"java/lang/Math", "min", "(II)I"⟩ : MethodName)) hown (mvT hZ (ww hw 177 rfl)) (mvT hZ (ww hw 178 rfl)) (mvT hZ (ww hw 179 rfl)) (mvT hZ (ww hw 180 rfl)) (by decide) (backOf (W := 4) (rmMn l Z a0 hw [] (16 : Int32) (Int32.ofNat as.length) h6 n0 z6 ) hZ (ww hw 180 rfl) (ww hw 179 rfl) (by decide) (by decide)) (g := (mkF m 24 #[vr t, vi 0, vi (Int32.ofNat as.length), vi (Int32.ofNat as.length), vr b6] [(.int (Int32.ofNat as.length)), (.int 16), (.int 0), (.ref b6), (.int 0), (.ref t)])) rfl (by rw [hml]; rfl) (argsL := [(.int 16), (.int (Int32.ofNat as.length))]) (rest := [(.int 0), (.ref b6), (.int 0), (.ref t)]) (lenOf pd_oIIcI rfl) rfl (by show 2 * 0 + _ ≤ _; exact Nat.le_of_eq rfl) (hb hby D20_24) (fun _ _ => ⟨rfl, e6, (by decide : 1 + 0 ≤ _), (by decide : 16 + 0 ≤ _)⟩)
  dsimp only [Pt.U, Pt.locs, Pt.cells, Pt.slots] at X11 l11 y11 z11 st11 hQ11
  subst l11 y11 z11
  obtain ⟨rfl, Nq11, eq11⟩ := hQ11
  have c12 : SS p e below S0 (T11.setTop (mkF m 27 #[vr t, vi 0, vi (Int32.ofNat as.length), vi (Int32.ofNat as.length), vr b6] [(.int (if (Int32.ofNat as.length) < (16 : Int32) then (Int32.ofNat as.length) else (16 : Int32))), (.int 0), (.ref b6), (.int 0), (.ref t)])) := c10.trans (st11 _ (Steps.refl _))
  have N11 := Fr.app N2 Nq11
  rw [(own_min (n := as.length) (by omega))] at c12
  obtain ⟨T13, h13, l13, X13, e13, N13, Kq13, V13, st13⟩ := cpA X11 hx hZ hown (ww hw 181 rfl) (ww hw 135 rfl) (ww hw 133 rfl) (ww hw 134 rfl) eq11 (Vt.ext E6) V6 (Or.inl ⟨rfl, rfl⟩) (sp := (0 : Int32)) (dp := (0 : Int32)) (nn := (Int32.ofNat as.length)) (by decide) (by decide) (own_nn (by omega)) (by rw [own_nat (by omega)]; show 0 + as.length ≤ 16; omega) (by rw [own_nat (by omega)]; exact Nat.le_of_eq (Nat.zero_add _)) rfl (by rw [own_nat (by omega), List.length_replicate]; exact Nat.le_of_eq (Nat.zero_add _)) N11 (Nat.le_trans Z0 (Nat.le_trans K0.1 (Nat.le_of_eq g6.symm))) (g := (mkF m 27 #[vr t, vi 0, vi (Int32.ofNat as.length), vi (Int32.ofNat as.length), vr b6] [(.int (Int32.ofNat as.length)), (.int 0), (.ref b6), (.int 0), (.ref t)])) rfl (by rw [hml]; rfl) (rest := []) rfl (hb hby D20_27) (by decide) (W := 0) (by show 2 * 0 + _ ≤ _; exact Nat.le_of_eq rfl) (by decide)
  have c14 : SS p e below S0 (T13.setTop (mkF m 30 #[vr t, vi 0, vi (Int32.ofNat as.length), vi (Int32.ofNat as.length), vr b6] [])) := c12.trans (st13 _ (Steps.refl _))
  have z13 : n0 ≤ h13.size := Nat.le_trans z6 Kq13.1
  have K13 := K6.trans Kq13 (allS (Or.inr (Nat.le_trans K0.1 (Nat.le_of_eq g6.symm))) all0)
  rw [own_cp2 (by omega) (List.length_replicate ..)] at V13
  have c15 : SS p e below S0 (T13.setTop (mkF m 32 #[vr t, vi 0, vi (Int32.ofNat as.length), vi (Int32.ofNat as.length), vr b6] [(.ref b6)])) := c14.trans (by
    show SS p e below (T13.setTop (mkF m 30 #[vr t, vi 0, vi (Int32.ofNat as.length), vi (Int32.ofNat as.length), vr b6] [])) _
    refine XS.aload X13.here hx rfl (hb hby D20_30) rfl rfl ?_
    exact Steps.refl _)
  obtain ⟨fs, hr, hrun, hended, hW, hsame⟩ := X13.leave (v := some (.ref b6)) (fun h => by rw [Bd.returns] at h; cases h)
  refine ⟨_, _, c15.trans (retOut X13 hx Bd.returns rfl (Or.inr (Or.inr (Or.inr (Or.inr ⟨rfl, rfl, rfl⟩)))) (hb hby D20_32) hr), hrun, hended, _, _, rfl, ?_, ⟨_, rfl⟩, hW, hsame.mono (by first | decide | exact Nat.le_of_ble_eq_true rfl) (by first | decide | exact Nat.le_of_ble_eq_true rfl)⟩
  show QNewB Z as h0 n0 _ T13.heap _
  rw [e13]
  exact ⟨_, _, rfl, N13, K13, (Nat.le_trans K0.1 (Nat.le_of_eq g6.symm)), V13⟩

theorem D21_0 : decode jdk_65_method_132_code 0 = .ok (.iload_n 1, 1) := by decide +kernel
theorem D21_1 : decode jdk_65_method_132_code 1 = .ok (.ifCond .ne 9, 3) := by decide +kernel
theorem D21_4 : decode jdk_65_method_132_code 4 = .ok (.iload_n 2, 1) := by decide +kernel
theorem D21_5 : decode jdk_65_method_132_code 5 = .ok (.aload_n 0, 1) := by decide +kernel
theorem D21_6 : decode jdk_65_method_132_code 6 = .ok (.arraylength, 1) := by decide +kernel
theorem D21_7 : decode jdk_65_method_132_code 7 = .ok (.if_icmp .eq 10, 3) := by decide +kernel
theorem D21_10 : decode jdk_65_method_132_code 10 = .ok (.aload_n 0, 1) := by decide +kernel
theorem D21_11 : decode jdk_65_method_132_code 11 = .ok (.iload_n 1, 1) := by decide +kernel
theorem D21_12 : decode jdk_65_method_132_code 12 = .ok (.iload_n 2, 1) := by decide +kernel
theorem pd_oaBIIcaB : parseMethodDescriptor "([BII)[B" = some ⟨[(.array .byte), .int, .int], some (.array .byte)⟩ := by decide +kernel
theorem D21_13 : decode jdk_65_method_132_code 13 = .ok (.invokestatic 339, 3) := by decide +kernel
theorem D21_16 : decode jdk_65_method_132_code 16 = .ok (.areturn, 1) := by decide +kernel
theorem ef_rmCR (m : MethodId) (x0 : Addr) (x1 : Int32) (x2 : Int32) : entryFrame m #[(.ref x0), (.int x1), (.int x2)] 3 = mkF m 0 #[.val (.ref x0), .val (.int x1), .val (.int x2)] [] := by first | (simp [entryFrame, mkF, argsToLocals, Value.category]; done) | rfl
set_option maxRecDepth 65536 in
set_option maxHeartbeats 40000000 in
theorem rmCR (l : Launch) (Z : State) (a0 : Array Value) (hw : ∀ d ∈ tables_1, d.before a0 Z = true) (ws : List Jvm.Cond) (t : Addr) (kb : ClassId) (as : List Int32) (h0 : Heap) (n0 : Nat) (Z0 : n0 ≤ h0.size) (Vt : Arv Z h0 t kb .byte (16 : Int32) (own_pad as) (.int 0)) (hl : as.length < 16) :
    MetFree l (⟨"java/util/Arrays", "copyOfRange", "([BII)[B"⟩ : MethodName) (head1 (Jvm.Cond.code (⟨"java/util/Arrays", "copyOfRange", "([BII)[B"⟩ : MethodName) jdk_65_method_132_code 3 (some (.array .byte)) :: ws) ({ frames := 2, cells := 1, slots := 16, locals := 56 } : Room)) (fun aa U => aa = #[(.ref t), (.int 0), (.int (Int32.ofNat as.length))] ∧ Z.Warmed39 U.vm ∧ U.heap = h0) (fun _ _ _ _ _ => True) (fun _ U o U' => ∃ v L, o = .returned v ∧ QNewB Z as h0 n0 v U'.heap L ∧ FrameEnd U o U' L ({ frames := 2, cells := 1, slots := 16, locals := 56 } : Room).cells ({ frames := 2, cells := 1, slots := 16, locals := 56 } : Room).slots) := by
  refine MetFree.of_bodySF (plainFor_of_name pn_java_util_Arrays) hisR ?_
  intro p e s m args below meth c s₁ Bd hml0 hP hK
  obtain ⟨rfl, hZ, hh⟩ := hP
  have hx := Bd.exec
  have hby := Bd.bytes
  have hml : c.maxLocals = 3 := hml0
  have hown : s.vm.findClass "java/util/Arrays" = some m.cls := findClass_of_methodNamed Bd.named
  have hnm := (name_of_methodNamed Bd.named Bd.method).1
  have X0 : Stand p l e ({ frames := 2, cells := 1, slots := 16, locals := 56 } : Room) s m #[(.ref t), (.int 0), (.int (Int32.ofNat as.length))] below meth c s₁ [] 0 0 := Stand.of_body Bd
  have e0 : s₁.heap = h0 := by rw [← hh, Bd.state]; rfl
  have N0 := Fr.nil n0
  have K0 := Keep.refl h0 []
  obtain ⟨S0, hS0⟩ : ∃ z, z = s₁.setTop (entryFrame m #[(.ref t), (.int 0), (.int (Int32.ofNat as.length))] 3) := ⟨_, rfl⟩
  rw [← hS0]
  have c0 : SS p e below S0 (s₁.setTop (mkF m 0 #[vr t, vi 0, vi (Int32.ofNat as.length)] [])) := by
    rw [hS0]; exact castTop (ef_rmCR m t (0 : Int32) (Int32.ofNat as.length)) (Steps.refl _)
  have c1 : SS p e below S0 (s₁.setTop (mkF m 6 #[vr t, vi 0, vi (Int32.ofNat as.length)] [(.ref t), (.int (Int32.ofNat as.length))])) := c0.trans (by
    show SS p e below (s₁.setTop (mkF m 0 #[vr t, vi 0, vi (Int32.ofNat as.length)] [])) _
    refine XS.iloadN X0.here hx rfl (hb hby D21_0) rfl ?_
    refine XS.ifNo X0.here hx rfl (hb hby D21_1) rfl ((if0 _ _).trans (teq (by decide : ((0 : Int32) = (0 : Int32)))).2) ?_
    refine XS.iloadN X0.here hx rfl (hb hby D21_4) rfl ?_
    refine XS.aloadN X0.here hx rfl (hb hby D21_5) rfl rfl ?_
    exact Steps.refl _)
  obtain ⟨cl2, Ar2, -, S2, Nn2, -, -⟩ := id Vt
  have c3 : SS p e below S0 (s₁.setTop (mkF m 13 #[vr t, vi 0, vi (Int32.ofNat as.length)] [(.int (Int32.ofNat as.length)), (.int 0), (.ref t)])) := c1.trans (by
    show SS p e below (s₁.setTop (mkF m 6 #[vr t, vi 0, vi (Int32.ofNat as.length)] [(.ref t), (.int (Int32.ofNat as.length))])) _
    refine X0.arraylength hx (by rw [e0]; exact Ar2.1) (State.isArrayOf_alike hZ.alike Ar2.2.1) (g := (mkF m 6 #[vr t, vi 0, vi (Int32.ofNat as.length)] [(.ref t), (.int (Int32.ofNat as.length))])) rfl rfl (hb hby D21_6) _ ?_
    rw [len_of S2 Nn2]
    refine XS.icmpNo X0.here hx rfl (hb hby D21_7) rfl (feq (fun q => absurd ((own_ofN_inj (a := as.length) (b := 16) (by omega) (by omega)).mp q) (by omega) : ¬ (Int32.ofNat as.length) = (16 : Int32))).1 ?_
    refine XS.aloadN X0.here hx rfl (hb hby D21_10) rfl rfl ?_
    refine XS.iloadN X0.here hx rfl (hb hby D21_11) rfl ?_
    refine XS.iloadN X0.here hx rfl (hb hby D21_12) rfl ?_
    exact Steps.refl _)
  obtain ⟨_, _, ⟨T4, L4, kk4, nn4⟩, -, X4, ⟨Lc4, hQ4, l4, y4, z4⟩, st4⟩ := Jvm.LawKit.callS X0 hx (y := (⟨"java/util/Arrays", "copyOfRangeByte", "([BII)[B"⟩ : MethodName)) hown (mvT hZ (ww hw 171 rfl)) (mvT hZ (ww hw 172 rfl)) (mvT hZ (ww hw 169 rfl)) (mvT hZ (ww hw 173 rfl)) (by decide) (backOf (W := 0) (rmCB l Z a0 hw [] t kb as h0 n0 Z0 Vt hl) hZ (ww hw 173 rfl) (ww hw 169 rfl) (by decide) (by decide)) (g := (mkF m 13 #[vr t, vi 0, vi (Int32.ofNat as.length)] [(.int (Int32.ofNat as.length)), (.int 0), (.ref t)])) rfl (by rw [hml]; rfl) (argsL := [(.ref t), (.int 0), (.int (Int32.ofNat as.length))]) (rest := []) (lenOf pd_oaBIIcaB rfl) rfl (by show 2 * 0 + _ ≤ _; exact Nat.le_of_eq rfl) (hb hby D21_13) (fun _ _ => ⟨rfl, e0, (by decide : 0 + 1 ≤ _), (by decide : 0 + 16 ≤ _)⟩)
  dsimp only [Pt.U, Pt.locs, Pt.cells, Pt.slots] at X4 l4 y4 z4 st4 hQ4
  subst l4 y4 z4
  obtain ⟨t4, kb4, rfl, Nq4, Kq4, gt4, Vt4⟩ := hQ4
  have c5 : SS p e below S0 (T4.setTop (mkF m 16 #[vr t, vi 0, vi (Int32.ofNat as.length)] [(.ref t4)])) := c3.trans (st4 _ (Steps.refl _))
  have N4 := Fr.app N0 Nq4
  have z4 : n0 ≤ T4.heap.size := Nat.le_trans Z0 Kq4.1
  have K4 := K0.trans Kq4 all0
  have lt_t4 := Vt4.lt
  obtain ⟨fs, hr, hrun, hended, hW, hsame⟩ := X4.leave (v := some (.ref t4)) (fun h => by rw [Bd.returns] at h; cases h)
  refine ⟨_, _, c5.trans (retOut X4 hx Bd.returns rfl (Or.inr (Or.inr (Or.inr (Or.inr ⟨rfl, rfl, rfl⟩)))) (hb hby D21_16) hr), hrun, hended, _, _, rfl, ?_, ⟨_, rfl⟩, hW, hsame.mono (by first | decide | exact Nat.le_of_ble_eq_true rfl) (by first | decide | exact Nat.le_of_ble_eq_true rfl)⟩
  show QNewB Z as h0 n0 _ T4.heap _
  exact ⟨_, _, rfl, N4, K4, (Nat.le_trans K0.1 gt4), Vt4⟩

theorem D22_0 : decode jdk_42_method_150_code 0 = .ok (.aload_n 0, 1) := by decide +kernel
theorem D22_1 : decode jdk_42_method_150_code 1 = .ok (.invokespecial 1, 3) := by decide +kernel
theorem D22_4 : decode jdk_42_method_150_code 4 = .ok (.aload_n 1, 1) := by decide +kernel
theorem pd_ocaB : parseMethodDescriptor "()[B" = some ⟨[], some (.array .byte)⟩ := by decide +kernel
theorem D22_5 : decode jdk_42_method_150_code 5 = .ok (.invokevirtual 552, 3) := by decide +kernel
theorem D22_8 : decode jdk_42_method_150_code 8 = .ok (.astore_n 3, 1) := by decide +kernel
theorem D22_9 : decode jdk_42_method_150_code 9 = .ok (.aload_n 1, 1) := by decide +kernel
theorem D22_10 : decode jdk_42_method_150_code 10 = .ok (.invokevirtual 549, 3) := by decide +kernel
theorem D22_13 : decode jdk_42_method_150_code 13 = .ok (.istore 4, 2) := by decide +kernel
theorem D22_15 : decode jdk_42_method_150_code 15 = .ok (.aload_n 1, 1) := by decide +kernel
theorem D22_16 : decode jdk_42_method_150_code 16 = .ok (.invokevirtual 1047, 3) := by decide +kernel
theorem D22_19 : decode jdk_42_method_150_code 19 = .ok (.ifCond .eq 22, 3) := by decide +kernel
theorem D22_22 : decode jdk_42_method_150_code 22 = .ok (.aload_n 0, 1) := by decide +kernel
theorem D22_23 : decode jdk_42_method_150_code 23 = .ok (.iconst 0, 1) := by decide +kernel
theorem D22_24 : decode jdk_42_method_150_code 24 = .ok (.putfield 15, 3) := by decide +kernel
theorem D22_27 : decode jdk_42_method_150_code 27 = .ok (.aload_n 0, 1) := by decide +kernel
theorem D22_28 : decode jdk_42_method_150_code 28 = .ok (.aload_n 3, 1) := by decide +kernel
theorem D22_29 : decode jdk_42_method_150_code 29 = .ok (.iconst 0, 1) := by decide +kernel
theorem D22_30 : decode jdk_42_method_150_code 30 = .ok (.iload 4, 2) := by decide +kernel
theorem D22_32 : decode jdk_42_method_150_code 32 = .ok (.invokestatic 54, 3) := by decide +kernel
theorem D22_35 : decode jdk_42_method_150_code 35 = .ok (.putfield 9, 3) := by decide +kernel
theorem D22_38 : decode jdk_42_method_150_code 38 = .ok (.goto 59, 3) := by decide +kernel
theorem D22_97 : decode jdk_42_method_150_code 97 = .ok (.return_, 1) := by decide +kernel
theorem ef_rmIA (m : MethodId) (x0 : Addr) (x1 : Addr) : entryFrame m #[(.ref x0), (.ref x1), .null] 5 = mkF m 0 #[.val (.ref x0), .val (.ref x1), .val .null, .unset, .unset] [] := by first | (simp [entryFrame, mkF, argsToLocals, Value.category]; done) | rfl
set_option maxRecDepth 65536 in
set_option maxHeartbeats 40000000 in
theorem rmIA (l : Launch) (Z : State) (a0 : Array Value) (hw : ∀ d ∈ tables_1, d.before a0 Z = true) (ws : List Jvm.Cond) (sx : Addr) (x t : Addr) (kb : ClassId) (as : List Int32) (G1 : Int32) (h0 : Heap) (n0 : Nat) (Z0 : n0 ≤ h0.size) (g_sx : n0 ≤ sx) (Es : Exa Z h0 sx "java/lang/String") (Fv : Fld Z h0 sx "java/lang/String" "value" "[B" .null) (Fc : Fld Z h0 sx "java/lang/String" "coder" "B" (.int 0)) (Bx : SBO Z h0 x t kb as) (hl : as.length < 16) (O2 : Sta Z Z.heap "java/lang/String" "COMPACT_STRINGS" "Z" (.int G1)) (P5 : ¬ G1 = 0) (X00 : Old Z n0 h0) :
    MetFree l (⟨"java/lang/String", "<init>", "(Ljava/lang/AbstractStringBuilder;Ljava/lang/Void;)V"⟩ : MethodName) (head1 (Jvm.Cond.code (⟨"java/lang/String", "<init>", "(Ljava/lang/AbstractStringBuilder;Ljava/lang/Void;)V"⟩ : MethodName) jdk_42_method_150_code 5 (none) :: ws) ({ frames := 3, cells := 1, slots := 16, locals := 71 } : Room)) (fun aa U => aa = #[(.ref sx), (.ref x), .null] ∧ Z.Warmed39 U.vm ∧ U.heap = h0) (fun _ _ _ _ _ => True) (fun _ U o U' => ∃ v L, o = .returned v ∧ QStr Z sx as h0 n0 v U'.heap L ∧ FrameEnd U o U' L ({ frames := 3, cells := 1, slots := 16, locals := 71 } : Room).cells ({ frames := 3, cells := 1, slots := 16, locals := 71 } : Room).slots) := by
  refine MetFree.of_bodySF (plainFor_of_name pn_java_lang_String) hisR ?_
  intro p e s m args below meth c s₁ Bd hml0 hP hK
  obtain ⟨rfl, hZ, hh⟩ := hP
  have hx := Bd.exec
  have hby := Bd.bytes
  have hml : c.maxLocals = 5 := hml0
  have hown : s.vm.findClass "java/lang/String" = some m.cls := findClass_of_methodNamed Bd.named
  have hnm := (name_of_methodNamed Bd.named Bd.method).1
  have X0 : Stand p l e ({ frames := 3, cells := 1, slots := 16, locals := 71 } : Room) s m #[(.ref sx), (.ref x), .null] below meth c s₁ [] 0 0 := Stand.of_body Bd
  have e0 : s₁.heap = h0 := by rw [← hh, Bd.state]; rfl
  have N0 := Fr.nil n0
  have K0 := Keep.refl h0 [sx]
  obtain ⟨S0, hS0⟩ : ∃ z, z = s₁.setTop (entryFrame m #[(.ref sx), (.ref x), .null] 5) := ⟨_, rfl⟩
  rw [← hS0]
  have c0 : SS p e below S0 (s₁.setTop (mkF m 0 #[vr sx, vr x, .val .null, .unset, .unset] [])) := by
    rw [hS0]; exact castTop (ef_rmIA m sx x) (Steps.refl _)
  have c1 : SS p e below S0 (s₁.setTop (mkF m 1 #[vr sx, vr x, .val .null, .unset, .unset] [(.ref sx)])) := c0.trans (by
    show SS p e below (s₁.setTop (mkF m 0 #[vr sx, vr x, .val .null, .unset, .unset] [])) _
    refine XS.aloadN X0.here hx rfl (hb hby D22_0) rfl rfl ?_
    exact Steps.refl _)
  obtain ⟨T2, X2, e2, st2⟩ := initO X0 hx hZ hown (ww hw 16 rfl) (ww hw 17 rfl) (ww hw 18 rfl) e0 (g := (mkF m 1 #[vr sx, vr x, .val .null, .unset, .unset] [(.ref sx)])) rfl (by rw [hml]; rfl) rfl (hb hby D22_1) (by decide) (W := 0) (by show 2 * 0 + _ ≤ _; exact Nat.le_of_eq rfl) (by decide)
  have c3 : SS p e below S0 (T2.setTop (mkF m 4 #[vr sx, vr x, .val .null, .unset, .unset] [])) := c1.trans (st2 _ (Steps.refl _))
  have c4 : SS p e below S0 (T2.setTop (mkF m 5 #[vr sx, vr x, .val .null, .unset, .unset] [(.ref x)])) := c3.trans (by
    show SS p e below (T2.setTop (mkF m 4 #[vr sx, vr x, .val .null, .unset, .unset] [])) _
    refine XS.aloadN X2.here hx rfl (hb hby D22_4) rfl rfl ?_
    exact Steps.refl _)
  obtain ⟨cq5, kq5, q5a, q5b, q5c⟩ := isOf hZ e2 Bx.1
  obtain ⟨_, _, ⟨T5, L5, kk5, nn5⟩, -, X5, ⟨Lc5, hQ5, l5, y5, z5⟩, st5⟩ := X2.virtualBack hx (y := (⟨"java/lang/AbstractStringBuilder", "getValue", "()[B"⟩ : MethodName)) (z := (⟨"java/lang/AbstractStringBuilder", "getValue", "()[B"⟩ : MethodName)) hown (mvT hZ (ww hw 149 rfl)) (mvT hZ (ww hw 150 rfl)) (notFace_of_selects (args := #[]) (mvT hZ (ww hw 152 rfl))) (mvT hZ (ww hw 152 rfl)) (mvT hZ (ww hw 151 rfl)) (by decide) (backOf (W := 0) (rmGV l Z a0 hw [] x t kb as h0 n0 Z0 ⟨Bx.1, Bx.2.1, Bx.2.2.1, Bx.2.2.2.1, Bx.2.2.2.2.1, Bx.2.2.2.2.2⟩) hZ (ww hw 153 rfl) (ww hw 81 rfl) (by decide) (by decide)) q5a q5c (g := (mkF m 5 #[vr sx, vr x, .val .null, .unset, .unset] [(.ref x)])) rfl (by rw [hml]; rfl) (Steps.refl _) (argsL := []) (rest := []) (lenOf pd_ocaB rfl) rfl (by show 2 * 0 + _ ≤ _; exact Nat.le_of_eq rfl) (hb hby D22_5) (fun _ _ => ⟨rfl, e2, (by decide : 0 + 0 ≤ _), (by decide : 0 + 0 ≤ _)⟩)
  dsimp only [Pt.U, Pt.locs, Pt.cells, Pt.slots] at X5 l5 y5 z5 st5 hQ5
  subst l5 y5 z5
  obtain ⟨rfl, Nq5, eq5⟩ := hQ5
  have c6 : SS p e below S0 (T5.setTop (mkF m 8 #[vr sx, vr x, .val .null, .unset, .unset] [(.ref t)])) := c4.trans (st5)
  have N5 := Fr.app N0 Nq5
  have c7 : SS p e below S0 (T5.setTop (mkF m 10 #[vr sx, vr x, .val .null, vr t, .unset] [(.ref x)])) := c6.trans (by
    show SS p e below (T5.setTop (mkF m 8 #[vr sx, vr x, .val .null, .unset, .unset] [(.ref t)])) _
    refine XS.astoreN X5.here hx rfl (hb hby D22_8) rfl rfl (l' := #[vr sx, vr x, .val .null, vr t, .unset]) rfl ?_
    refine XS.aloadN X5.here hx rfl (hb hby D22_9) rfl rfl ?_
    exact Steps.refl _)
  obtain ⟨cq8, kq8, q8a, q8b, q8c⟩ := isOf hZ eq5 Bx.1
  obtain ⟨_, _, ⟨T8, L8, kk8, nn8⟩, -, X8, ⟨Lc8, hQ8, l8, y8, z8⟩, st8⟩ := X5.virtualBack hx (y := (⟨"java/lang/AbstractStringBuilder", "length", "()I"⟩ : MethodName)) (z := (⟨"java/lang/StringBuilder", "length", "()I"⟩ : MethodName)) hown (mvT hZ (ww hw 154 rfl)) (mvT hZ (ww hw 155 rfl)) (own_nf (args := #[]) (C := "java/lang/StringBuilder") (y := (⟨"java/lang/AbstractStringBuilder", "length", "()I"⟩ : MethodName)) (y2 := (⟨"java/lang/AbstractStringBuilder", "getValue", "()[B"⟩ : MethodName)) rfl (mvT hZ (ww hw 151 rfl)) (mvT hZ (ww hw 152 rfl))) (mvT hZ (ww hw 157 rfl)) (mvT hZ (ww hw 158 rfl)) (by decide) (backOf (W := 0) (rmSL l Z a0 hw [] x t kb as h0 n0 Z0 ⟨Bx.1, Bx.2.1, Bx.2.2.1, Bx.2.2.2.1, Bx.2.2.2.2.1, Bx.2.2.2.2.2⟩) hZ (ww hw 159 rfl) (ww hw 73 rfl) (by decide) (by decide)) q8a q8c (g := (mkF m 10 #[vr sx, vr x, .val .null, vr t, .unset] [(.ref x)])) rfl (by rw [hml]; rfl) (Steps.refl _) (argsL := []) (rest := []) (lenOf pd_ocI rfl) rfl (by show 2 * 0 + _ ≤ _; exact Nat.le_of_eq rfl) (hb hby D22_10) (fun _ _ => ⟨rfl, eq5, (by decide : 0 + 0 ≤ _), (by decide : 0 + 0 ≤ _)⟩)
  dsimp only [Pt.U, Pt.locs, Pt.cells, Pt.slots] at X8 l8 y8 z8 st8 hQ8
  subst l8 y8 z8
  obtain ⟨rfl, Nq8, eq8⟩ := hQ8
  have c9 : SS p e below S0 (T8.setTop (mkF m 13 #[vr sx, vr x, .val .null, vr t, .unset] [(.int (Int32.ofNat as.length))])) := c7.trans (st8)
  have N8 := Fr.app N5 Nq8
  have c10 : SS p e below S0 (T8.setTop (mkF m 16 #[vr sx, vr x, .val .null, vr t, vi (Int32.ofNat as.length)] [(.ref x)])) := c9.trans (by
    show SS p e below (T8.setTop (mkF m 13 #[vr sx, vr x, .val .null, vr t, .unset] [(.int (Int32.ofNat as.length))])) _
    refine XS.istore X8.here hx rfl (hb hby D22_13) rfl (l' := #[vr sx, vr x, .val .null, vr t, vi (Int32.ofNat as.length)]) rfl ?_
    refine XS.aloadN X8.here hx rfl (hb hby D22_15) rfl rfl ?_
    exact Steps.refl _)
  obtain ⟨cq11, kq11, q11a, q11b, q11c⟩ := isOf hZ eq8 Bx.1
  obtain ⟨_, _, ⟨T11, L11, kk11, nn11⟩, -, X11, ⟨Lc11, hQ11, l11, y11, z11⟩, st11⟩ := X8.virtualBack hx (y := (⟨"java/lang/AbstractStringBuilder", "isLatin1", "()Z"⟩ : MethodName)) (z := (⟨"java/lang/AbstractStringBuilder", "isLatin1", "()Z"⟩ : MethodName)) hown (mvT hZ (ww hw 162 rfl)) (mvT hZ (ww hw 163 rfl)) (notFace_of_selects (args := #[]) (mvT hZ (ww hw 165 rfl))) (mvT hZ (ww hw 165 rfl)) (mvT hZ (ww hw 164 rfl)) (by decide) (backOf (W := 0) (rmIl l Z a0 hw [] x t kb as G1 h0 n0 Z0 ⟨Bx.1, Bx.2.1, Bx.2.2.1, Bx.2.2.2.1, Bx.2.2.2.2.1, Bx.2.2.2.2.2⟩ O2 P5 X00) hZ (ww hw 166 rfl) (ww hw 81 rfl) (by decide) (by decide)) q11a q11c (g := (mkF m 16 #[vr sx, vr x, .val .null, vr t, vi (Int32.ofNat as.length)] [(.ref x)])) rfl (by rw [hml]; rfl) (Steps.refl _) (argsL := []) (rest := []) (lenOf pd_ocZ rfl) rfl (by show 2 * 0 + _ ≤ _; exact Nat.le_of_eq rfl) (hb hby D22_16) (fun _ _ => ⟨rfl, eq8, (by decide : 0 + 0 ≤ _), (by decide : 0 + 0 ≤ _)⟩)
  dsimp only [Pt.U, Pt.locs, Pt.cells, Pt.slots] at X11 l11 y11 z11 st11 hQ11
  subst l11 y11 z11
  obtain ⟨rfl, Nq11, eq11⟩ := hQ11
  have c12 : SS p e below S0 (T11.setTop (mkF m 19 #[vr sx, vr x, .val .null, vr t, vi (Int32.ofNat as.length)] [(.int 1)])) := c10.trans (st11)
  have N11 := Fr.app N8 Nq11
  have c13 : SS p e below S0 (T11.setTop (mkF m 24 #[vr sx, vr x, .val .null, vr t, vi (Int32.ofNat as.length)] [(.int 0), (.ref sx)])) := c12.trans (by
    show SS p e below (T11.setTop (mkF m 19 #[vr sx, vr x, .val .null, vr t, vi (Int32.ofNat as.length)] [(.int 1)])) _
    refine XS.ifNo X11.here hx rfl (hb hby D22_19) rfl ((if0 _ _).trans (feq (by decide : ¬ ((1 : Int32) = (0 : Int32)))).1) ?_
    refine XS.aloadN X11.here hx rfl (hb hby D22_22) rfl rfl ?_
    refine XS.iconst X11.here hx rfl (hb hby D22_23) ?_
    exact Steps.refl _)
  obtain ⟨T14, h14, X14, e14, W14, st14⟩ := putFN X11 hx hZ hown (ww hw 26 rfl) Via.refl eq11 Fc Es (Or.inr ⟨(ww hw 22 rfl), rfl, hnm⟩) (ww hw 6 rfl) (ty := .byte) (v' := (.int 0)) (by decide) rfl rfl (g := (mkF m 24 #[vr sx, vr x, .val .null, vr t, vi (Int32.ofNat as.length)] [(.int 0), (.ref sx)])) rfl rfl (hb hby D22_24)
  have c15 : SS p e below S0 (T14.setTop (mkF m 27 #[vr sx, vr x, .val .null, vr t, vi (Int32.ofNat as.length)] [])) := c13.trans (st14 _ (Steps.refl _))
  have N14 := Fr.snoc X14 N11 g_sx
  have Fw14 := Fc.same W14
  have z14 : n0 ≤ h14.size := Nat.le_trans Z0 (Keep.of_wr W14).1
  have K14 := K0.wr W14 (Or.inl (by simp))
  have c16 : SS p e below S0 (T14.setTop (mkF m 32 #[vr sx, vr x, .val .null, vr t, vi (Int32.ofNat as.length)] [(.int (Int32.ofNat as.length)), (.int 0), (.ref t), (.ref sx)])) := c15.trans (by
    show SS p e below (T14.setTop (mkF m 27 #[vr sx, vr x, .val .null, vr t, vi (Int32.ofNat as.length)] [])) _
    refine XS.aloadN X14.here hx rfl (hb hby D22_27) rfl rfl ?_
    refine XS.aloadN X14.here hx rfl (hb hby D22_28) rfl rfl ?_
    refine XS.iconst X14.here hx rfl (hb hby D22_29) ?_
    refine XS.iload X14.here hx rfl (hb hby D22_30) rfl ?_
    exact Steps.refl _)
  obtain ⟨_, _, ⟨T17, L17, kk17, nn17⟩, -, X17, ⟨Lc17, hQ17, l17, y17, z17⟩, st17⟩ := Jvm.LawKit.callS X14 hx (y := (⟨"java/util/Arrays", "copyOfRange", "([BII)[B"⟩ : MethodName)) hown (mvT hZ (ww hw 167 rfl)) (mvT hZ (ww hw 168 rfl)) (mvT hZ (ww hw 169 rfl)) (mvT hZ (ww hw 170 rfl)) (by decide) (backOf (W := 1) (rmCR l Z a0 hw [] t kb as h14 n0 z14 (Bx.2.2.2.2.1.other W14 (Ne.symm (Exa.neArv Es Bx.2.2.2.2.1 (ww hw 6 rfl)))) hl) hZ (ww hw 170 rfl) (ww hw 169 rfl) (by decide) (by decide)) (g := (mkF m 32 #[vr sx, vr x, .val .null, vr t, vi (Int32.ofNat as.length)] [(.int (Int32.ofNat as.length)), (.int 0), (.ref t), (.ref sx)])) rfl (by rw [hml]; rfl) (argsL := [(.ref t), (.int 0), (.int (Int32.ofNat as.length))]) (rest := [(.ref sx)]) (lenOf pd_oaBIIcaB rfl) rfl (by show 2 * 0 + _ ≤ _; exact Nat.le_of_eq rfl) (hb hby D22_32) (fun _ _ => ⟨rfl, e14, (by decide : 0 + 1 ≤ _), (by decide : 0 + 16 ≤ _)⟩)
  dsimp only [Pt.U, Pt.locs, Pt.cells, Pt.slots] at X17 l17 y17 z17 st17 hQ17
  subst l17 y17 z17
  obtain ⟨t17, kb17, rfl, Nq17, Kq17, gt17, Vt17⟩ := hQ17
  have c18 : SS p e below S0 (T17.setTop (mkF m 35 #[vr sx, vr x, .val .null, vr t, vi (Int32.ofNat as.length)] [(.ref t17), (.ref sx)])) := c16.trans (st17 _ (Steps.refl _))
  have N17 := Fr.app N14 Nq17
  have z17 : n0 ≤ T17.heap.size := Nat.le_trans z14 Kq17.1
  have K17 := K14.trans Kq17 all0
  have lt_t17 := Vt17.lt
  obtain ⟨T19, h19, X19, e19, W19, st19⟩ := putF X17 hx hZ hown (host := "") (Or.inl (ww hw 25 rfl)) Via.refl rfl ((Fv.other W14 (Or.inr (slot_ne (Or.inr (ww hw 21 rfl)) (Or.inr (ww hw 22 rfl)) (by decide) (t := (.array .byte)) (t' := .byte) (by decide) (by decide)))).keep Kq17 nin0) ((Es.wr W14).keep Kq17) (Or.inr ⟨(ww hw 21 rfl), rfl, hnm⟩) (ww hw 6 rfl) (ty := (.array .byte)) (by decide) rfl rfl (g := (mkF m 35 #[vr sx, vr x, .val .null, vr t, vi (Int32.ofNat as.length)] [(.ref t17), (.ref sx)])) rfl rfl (hb hby D22_35)
  have c20 : SS p e below S0 (T19.setTop (mkF m 38 #[vr sx, vr x, .val .null, vr t, vi (Int32.ofNat as.length)] [])) := c18.trans (st19 _ (Steps.refl _))
  have N19 := Fr.snoc X19 N17 g_sx
  have Fw19 := ((Fv.other W14 (Or.inr (slot_ne (Or.inr (ww hw 21 rfl)) (Or.inr (ww hw 22 rfl)) (by decide) (t := (.array .byte)) (t' := .byte) (by decide) (by decide)))).keep Kq17 nin0).same W19
  have z19 : n0 ≤ h19.size := Nat.le_trans z17 (Keep.of_wr W19).1
  have K19 := K17.wr W19 (Or.inl (by simp))
  have c21 : SS p e below S0 (T19.setTop (mkF m 97 #[vr sx, vr x, .val .null, vr t, vi (Int32.ofNat as.length)] [])) := c20.trans (by
    show SS p e below (T19.setTop (mkF m 38 #[vr sx, vr x, .val .null, vr t, vi (Int32.ofNat as.length)] [])) _
    refine XS.goto X19.here hx rfl (pc0 := 38) (pc' := 97) rfl (hb hby D22_38) (by decide) (by decide) ?_
    exact Steps.refl _)
  obtain ⟨fs, hr, hrun, hended, hW, hsame⟩ := X19.leave (v := none) (fun h => rfl)
  refine ⟨_, _, c21.trans (X19.returnOut hx Bd.returns (hb hby D22_97) hr), hrun, hended, _, _, rfl, ?_, ⟨_, rfl⟩, hW, hsame.mono (by first | decide | exact Nat.le_of_ble_eq_true rfl) (by first | decide | exact Nat.le_of_ble_eq_true rfl)⟩
  show QStr Z sx as h0 n0 _ T19.heap _
  rw [e19]
  exact ⟨_, _, rfl, N19, K19, (((Es.wr W14).keep Kq17).wr W19), Fw19, ((Fw14.keep Kq17 nin0).other W19 (Or.inr (slot_ne (Or.inr (ww hw 22 rfl)) (Or.inr (ww hw 21 rfl)) (by decide) (t := .byte) (t' := (.array .byte)) (by decide) (by decide)))), (Vt17.other W19 (Ne.symm (Nat.ne_of_lt (Nat.lt_of_lt_of_le Fw14.lt gt17)))), Bx.2.2.2.2.2.1, by omega⟩

theorem D23_0 : decode jdk_42_method_53_code 0 = .ok (.aload_n 0, 1) := by decide +kernel
theorem D23_1 : decode jdk_42_method_53_code 1 = .ok (.aload_n 1, 1) := by decide +kernel
theorem D23_2 : decode jdk_42_method_53_code 2 = .ok (.aconst_null, 1) := by decide +kernel
theorem pd_oLjavaslangsAbstractStringBuildereLjavaslangsVoidecV : parseMethodDescriptor "(Ljava/lang/AbstractStringBuilder;Ljava/lang/Void;)V" = some ⟨[(.object "java/lang/AbstractStringBuilder"), (.object "java/lang/Void")], none⟩ := by decide +kernel
theorem D23_3 : decode jdk_42_method_53_code 3 = .ok (.invokespecial 489, 3) := by decide +kernel
theorem D23_6 : decode jdk_42_method_53_code 6 = .ok (.return_, 1) := by decide +kernel
theorem ef_rmIS (m : MethodId) (x0 : Addr) (x1 : Addr) : entryFrame m #[(.ref x0), (.ref x1)] 2 = mkF m 0 #[.val (.ref x0), .val (.ref x1)] [] := by first | (simp [entryFrame, mkF, argsToLocals, Value.category]; done) | rfl
set_option maxRecDepth 65536 in
set_option maxHeartbeats 40000000 in
theorem rmIS (l : Launch) (Z : State) (a0 : Array Value) (hw : ∀ d ∈ tables_1, d.before a0 Z = true) (ws : List Jvm.Cond) (sx : Addr) (x t : Addr) (kb : ClassId) (as : List Int32) (G1 : Int32) (h0 : Heap) (n0 : Nat) (Z0 : n0 ≤ h0.size) (g_sx : n0 ≤ sx) (Es : Exa Z h0 sx "java/lang/String") (Fv : Fld Z h0 sx "java/lang/String" "value" "[B" .null) (Fc : Fld Z h0 sx "java/lang/String" "coder" "B" (.int 0)) (Bx : SBO Z h0 x t kb as) (hl : as.length < 16) (O2 : Sta Z Z.heap "java/lang/String" "COMPACT_STRINGS" "Z" (.int G1)) (P5 : ¬ G1 = 0) (X00 : Old Z n0 h0) :
    MetFree l (⟨"java/lang/String", "<init>", "(Ljava/lang/StringBuilder;)V"⟩ : MethodName) (head1 (Jvm.Cond.code (⟨"java/lang/String", "<init>", "(Ljava/lang/StringBuilder;)V"⟩ : MethodName) jdk_42_method_53_code 2 (none) :: ws) ({ frames := 4, cells := 1, slots := 16, locals := 87 } : Room)) (fun aa U => aa = #[(.ref sx), (.ref x)] ∧ Z.Warmed39 U.vm ∧ U.heap = h0) (fun _ _ _ _ _ => True) (fun _ U o U' => ∃ v L, o = .returned v ∧ QStr Z sx as h0 n0 v U'.heap L ∧ FrameEnd U o U' L ({ frames := 4, cells := 1, slots := 16, locals := 87 } : Room).cells ({ frames := 4, cells := 1, slots := 16, locals := 87 } : Room).slots) := by
  refine MetFree.of_bodySF (plainFor_of_name pn_java_lang_String) hisR ?_
  intro p e s m args below meth c s₁ Bd hml0 hP hK
  obtain ⟨rfl, hZ, hh⟩ := hP
  have hx := Bd.exec
  have hby := Bd.bytes
  have hml : c.maxLocals = 2 := hml0
  have hown : s.vm.findClass "java/lang/String" = some m.cls := findClass_of_methodNamed Bd.named
  have hnm := (name_of_methodNamed Bd.named Bd.method).1
  have X0 : Stand p l e ({ frames := 4, cells := 1, slots := 16, locals := 87 } : Room) s m #[(.ref sx), (.ref x)] below meth c s₁ [] 0 0 := Stand.of_body Bd
  have e0 : s₁.heap = h0 := by rw [← hh, Bd.state]; rfl
  have N0 := Fr.nil n0
  have K0 := Keep.refl h0 [sx]
  obtain ⟨S0, hS0⟩ : ∃ z, z = s₁.setTop (entryFrame m #[(.ref sx), (.ref x)] 2) := ⟨_, rfl⟩
  rw [← hS0]
  have c0 : SS p e below S0 (s₁.setTop (mkF m 0 #[vr sx, vr x] [])) := by
    rw [hS0]; exact castTop (ef_rmIS m sx x) (Steps.refl _)
  have c1 : SS p e below S0 (s₁.setTop (mkF m 3 #[vr sx, vr x] [.null, (.ref x), (.ref sx)])) := c0.trans (by
    show SS p e below (s₁.setTop (mkF m 0 #[vr sx, vr x] [])) _
    refine XS.aloadN X0.here hx rfl (hb hby D23_0) rfl rfl ?_
    refine XS.aloadN X0.here hx rfl (hb hby D23_1) rfl rfl ?_
    refine XS.aconstNull X0.here hx rfl (hb hby D23_2) ?_
    exact Steps.refl _)
  obtain ⟨_, _, ⟨T2, L2, kk2, nn2⟩, -, X2, ⟨Lc2, hQ2, l2, y2, z2⟩, st2⟩ := X0.specialBack hx (y := (⟨"java/lang/String", "<init>", "(Ljava/lang/AbstractStringBuilder;Ljava/lang/Void;)V"⟩ : MethodName)) rfl hown (mvT hZ (ww hw 146 rfl)) (mvT hZ (ww hw 147 rfl)) (mvT hZ (ww hw 148 rfl)) (by decide) (backOf (W := 0) (rmIA l Z a0 hw [] sx x t kb as G1 h0 n0 Z0 g_sx Es Fv Fc ⟨Bx.1, Bx.2.1, Bx.2.2.1, Bx.2.2.2.1, Bx.2.2.2.2.1, Bx.2.2.2.2.2⟩ hl O2 P5 X00) hZ (ww hw 148 rfl) (ww hw 7 rfl) (by decide) (by decide)) (g := (mkF m 3 #[vr sx, vr x] [.null, (.ref x), (.ref sx)])) rfl (by rw [hml]; rfl) (Steps.refl _) (a := sx) (argsL := [(.ref x), .null]) (rest := []) (lenOf pd_oLjavaslangsAbstractStringBuildereLjavaslangsVoidecV rfl) rfl (by show 2 * 0 + _ ≤ _; exact Nat.le_of_eq rfl) (hb hby D23_3) (fun _ _ => ⟨rfl, e0, (by decide : 0 + 1 ≤ _), (by decide : 0 + 16 ≤ _)⟩)
  dsimp only [Pt.U, Pt.locs, Pt.cells, Pt.slots] at X2 l2 y2 z2 st2 hQ2
  subst l2 y2 z2
  obtain ⟨t2, kb2, rfl, Nq2, Kq2, So2⟩ := hQ2
  have c3 : SS p e below S0 (T2.setTop (mkF m 6 #[vr sx, vr x] [])) := c1.trans (st2)
  have N2 := Fr.app N0 Nq2
  have z2 : n0 ≤ T2.heap.size := Nat.le_trans Z0 Kq2.1
  have K2 := K0.trans Kq2 (allS (Or.inl (by simp)) all0)
  obtain ⟨fs, hr, hrun, hended, hW, hsame⟩ := X2.leave (v := none) (fun h => rfl)
  refine ⟨_, _, c3.trans (X2.returnOut hx Bd.returns (hb hby D23_6) hr), hrun, hended, _, _, rfl, ?_, ⟨_, rfl⟩, hW, hsame.mono (by first | decide | exact Nat.le_of_ble_eq_true rfl) (by first | decide | exact Nat.le_of_ble_eq_true rfl)⟩
  show QStr Z sx as h0 n0 _ T2.heap _
  exact ⟨_, _, rfl, N2, K2, So2⟩

def QMkS (Z : State) (cs : List Int32) (h0 : Heap) (n0 : Nat) (v : Option Value) (h : Heap) (L : List Loc) : Prop := ∃ (x t : Addr) (kb : ClassId), v = some (.ref x) ∧ Fr n0 L ∧ Keep h0 h [] ∧ h0.size ≤ x ∧ OStr Z h x t kb cs

theorem D24_0 : decode jdk_67_method_42_code 0 = .ok (.new 18, 3) := by decide +kernel
theorem D24_3 : decode jdk_67_method_42_code 3 = .ok (.dup, 1) := by decide +kernel
theorem D24_4 : decode jdk_67_method_42_code 4 = .ok (.aload_n 0, 1) := by decide +kernel
theorem pd_oLjavaslangsStringBuilderecV : parseMethodDescriptor "(Ljava/lang/StringBuilder;)V" = some ⟨[(.object "java/lang/StringBuilder")], none⟩ := by decide +kernel
theorem D24_5 : decode jdk_67_method_42_code 5 = .ok (.invokespecial 137, 3) := by decide +kernel
theorem D24_8 : decode jdk_67_method_42_code 8 = .ok (.areturn, 1) := by decide +kernel
theorem ef_rmTS (m : MethodId) (x0 : Addr) : entryFrame m #[(.ref x0)] 1 = mkF m 0 #[.val (.ref x0)] [] := by first | (simp [entryFrame, mkF, argsToLocals, Value.category]; done) | rfl
set_option maxRecDepth 65536 in
set_option maxHeartbeats 40000000 in
theorem rmTS (l : Launch) (Z : State) (a0 : Array Value) (hw : ∀ d ∈ tables_1, d.before a0 Z = true) (ws : List Jvm.Cond) (x t : Addr) (kb : ClassId) (as : List Int32) (G1 : Int32) (h0 : Heap) (n0 : Nat) (Z0 : n0 ≤ h0.size) (Bx : SBO Z h0 x t kb as) (hl : as.length < 16) (O2 : Sta Z Z.heap "java/lang/String" "COMPACT_STRINGS" "Z" (.int G1)) (P5 : ¬ G1 = 0) (X00 : Old Z n0 h0) :
    MetFree l (⟨"java/lang/StringBuilder", "toString", "()Ljava/lang/String;"⟩ : MethodName) (head1 (Jvm.Cond.code (⟨"java/lang/StringBuilder", "toString", "()Ljava/lang/String;"⟩ : MethodName) jdk_67_method_42_code 1 (some (.object "java/lang/String")) :: ws) ({ frames := 5, cells := 2, slots := 20, locals := 101 } : Room)) (fun aa U => aa = #[(.ref x)] ∧ Z.Warmed39 U.vm ∧ U.heap = h0) (fun _ _ _ _ _ => True) (fun _ U o U' => ∃ v L, o = .returned v ∧ QMkS Z as h0 n0 v U'.heap L ∧ FrameEnd U o U' L ({ frames := 5, cells := 2, slots := 20, locals := 101 } : Room).cells ({ frames := 5, cells := 2, slots := 20, locals := 101 } : Room).slots) := by
  refine MetFree.of_bodySF (plainFor_of_name pn_java_lang_StringBuilder) hisR ?_
  intro p e s m args below meth c s₁ Bd hml0 hP hK
  obtain ⟨rfl, hZ, hh⟩ := hP
  have hx := Bd.exec
  have hby := Bd.bytes
  have hml : c.maxLocals = 1 := hml0
  have hown : s.vm.findClass "java/lang/StringBuilder" = some m.cls := findClass_of_methodNamed Bd.named
  have hnm := (name_of_methodNamed Bd.named Bd.method).1
  have X0 : Stand p l e ({ frames := 5, cells := 2, slots := 20, locals := 101 } : Room) s m #[(.ref x)] below meth c s₁ [] 0 0 := Stand.of_body Bd
  have e0 : s₁.heap = h0 := by rw [← hh, Bd.state]; rfl
  have N0 := Fr.nil n0
  have K0 := Keep.refl h0 []
  obtain ⟨S0, hS0⟩ : ∃ z, z = s₁.setTop (entryFrame m #[(.ref x)] 1) := ⟨_, rfl⟩
  rw [← hS0]
  have c0 : SS p e below S0 (s₁.setTop (mkF m 0 #[vr x] [])) := by
    rw [hS0]; exact castTop (ef_rmTS m x) (Steps.refl _)
  obtain ⟨T1, h1, X1, e1, E1, A1, D1, -, st1⟩ := newO X0 hx hZ hown (ww hw 142 rfl) (ww hw 6 rfl) (ww hw 7 rfl) e0 (g := (mkF m 0 #[vr x] [])) rfl (hb hby D24_0) (by decide) (by decide)
  obtain ⟨b1, g1⟩ : ∃ z, z = h0.size := ⟨_, rfl⟩
  rw [← g1] at A1 D1 st1
  have c2 : SS p e below S0 (T1.setTop (mkF m 3 #[vr x] [(.ref b1)])) := c0.trans (st1 _ (Steps.refl _))
  have z1 : n0 ≤ h1.size := Nat.le_trans Z0 E1.1
  have K1 := K0.ext E1
  have lt_b1 : b1 < h1.size := A1.lt
  have F1_value : Fld Z h1 b1 "java/lang/String" "value" "[B" .null := D1 (Or.inr (ww hw 21 rfl)) (ty := (.array .byte)) (by decide)
  have F1_coder : Fld Z h1 b1 "java/lang/String" "coder" "B" (.int 0) := D1 (Or.inr (ww hw 22 rfl)) (ty := .byte) (by decide)
  have F1_hash : Fld Z h1 b1 "java/lang/String" "hash" "I" (.int 0) := D1 (Or.inl (ww hw 51 rfl)) (ty := .int) (by decide)
  have F1_hashIsZero : Fld Z h1 b1 "java/lang/String" "hashIsZero" "Z" (.int 0) := D1 (Or.inl (ww hw 53 rfl)) (ty := .boolean) (by decide)
  have c3 : SS p e below S0 (T1.setTop (mkF m 5 #[vr x] [(.ref x), (.ref b1), (.ref b1)])) := c2.trans (by
    show SS p e below (T1.setTop (mkF m 3 #[vr x] [(.ref b1)])) _
    refine XS.dup X1.here hx rfl (hb hby D24_3) rfl rfl ?_
    refine XS.aloadN X1.here hx rfl (hb hby D24_4) rfl rfl ?_
    exact Steps.refl _)
  obtain ⟨_, _, ⟨T4, L4, kk4, nn4⟩, -, X4, ⟨Lc4, hQ4, l4, y4, z4⟩, st4⟩ := X1.specialBack hx (y := (⟨"java/lang/String", "<init>", "(Ljava/lang/StringBuilder;)V"⟩ : MethodName)) rfl hown (mvT hZ (ww hw 143 rfl)) (mvT hZ (ww hw 144 rfl)) (mvT hZ (ww hw 145 rfl)) (by decide) (backOf (W := 1) (rmIS l Z a0 hw [] b1 x t kb as G1 h1 n0 z1 (Nat.le_trans Z0 (Nat.le_trans K0.1 (Nat.le_of_eq g1.symm))) A1 F1_value F1_coder ⟨(Bx.1.ext E1), (Bx.2.1.ext E1), (Bx.2.2.1.ext E1), (Bx.2.2.2.1.ext E1), (Bx.2.2.2.2.1.ext E1), Bx.2.2.2.2.2⟩ hl O2 P5 (X00.ext E1)) hZ (ww hw 145 rfl) (ww hw 7 rfl) (by decide) (by decide)) (g := (mkF m 5 #[vr x] [(.ref x), (.ref b1), (.ref b1)])) rfl (by rw [hml]; rfl) (Steps.refl _) (a := b1) (argsL := [(.ref x)]) (rest := [(.ref b1)]) (lenOf pd_oLjavaslangsStringBuilderecV rfl) rfl (by show 2 * 0 + _ ≤ _; exact Nat.le_of_eq rfl) (hb hby D24_5) (fun _ _ => ⟨rfl, e1, (by decide : 1 + 1 ≤ _), (by decide : 4 + 16 ≤ _)⟩)
  dsimp only [Pt.U, Pt.locs, Pt.cells, Pt.slots] at X4 l4 y4 z4 st4 hQ4
  subst l4 y4 z4
  obtain ⟨t4, kb4, rfl, Nq4, Kq4, So4⟩ := hQ4
  have c5 : SS p e below S0 (T4.setTop (mkF m 8 #[vr x] [(.ref b1)])) := c3.trans (st4)
  have N4 := Fr.app N0 Nq4
  have z4 : n0 ≤ T4.heap.size := Nat.le_trans z1 Kq4.1
  have K4 := K1.trans Kq4 (allS (Or.inr (Nat.le_trans K0.1 (Nat.le_of_eq g1.symm))) all0)
  obtain ⟨fs, hr, hrun, hended, hW, hsame⟩ := X4.leave (v := some (.ref b1)) (fun h => by rw [Bd.returns] at h; cases h)
  refine ⟨_, _, c5.trans (retOut X4 hx Bd.returns rfl (Or.inr (Or.inr (Or.inr (Or.inr ⟨rfl, rfl, rfl⟩)))) (hb hby D24_8) hr), hrun, hended, _, _, rfl, ?_, ⟨_, rfl⟩, hW, hsame.mono (by first | decide | exact Nat.le_of_ble_eq_true rfl) (by first | decide | exact Nat.le_of_ble_eq_true rfl)⟩
  show QMkS Z as h0 n0 _ T4.heap _
  exact ⟨_, _, _, rfl, N4, K4, (Nat.le_trans K0.1 (Nat.le_of_eq g1.symm)), So4⟩

abbrev PT (Z : State) (vm : Vm) : Prop := True
abbrev GT (Z : State) (v : Option Value) (vm : Vm) (h : Heap) : Prop := True
abbrev GMk (Z : State) (v : Option Value) (vm : Vm) (h : Heap) : Prop := ∀ xr : Addr, v = some (.ref xr) → Safe Z EL vm h xr
abbrev PRt (Z : State) (h : Heap) (sx mx : Addr) (vm : Vm) : Prop := Safe Z EL vm h sx ∧ Safe Z EL vm h mx
theorem own_backG {p : Program} {l : Launch} {e : Env} {R : Room} {s : State} {args : Array Value} {below : List Frame} {Z : State} {a0 : Array Value} {h : Heap} {vm0 : Vm} {y : MethodName} {bytes : ByteArray} {maxL : Nat} {ret : Option FieldType} {rm : Room} {len W : Nat} {as' : Array Value} {Q : Option Value → Heap → List Loc → Prop} {PV : Vm → Prop} {G : Option Value → Vm → Heap → Prop}
    (hM : MetFree l y (head1 [Cond.code y bytes maxL ret] rm) (fun a U => a = as' ∧ Z.Warmed39 U.vm ∧ U.heap = h ∧ CHv Z EL U.vm h ∧ PV U.vm) (fun _ _ _ _ _ => True) (fun _ U o U' => ∃ v L, o = .returned v ∧ Q v U'.heap L ∧ (CHr Z EL U.vm U.heap U'.vm U'.heap ∧ G v U'.vm U'.heap) ∧ ReturnedEndW U o U' L rm.cells rm.slots))
    (hZ : Z.Warmed39 vm0) (wc : (Cond.code y bytes maxL ret).before a0 Z = true) (wz : (Cond.initialized y.cls).before a0 Z = true) (hf : rm.frames + 1 ≤ R.frames) (hl : W + (maxL + 11) + rm.locals ≤ R.locals) (hEL : EW Z a0 EL) (H : CHv Z EL vm0 h) (hPV : ∀ vm1, CHr Z EL vm0 h vm1 h → PV vm1) :
    BackS l R p e below (s.setVm vm0) args y len W (fun A a => a = as' ∧ A.U.heap = h ∧ A.cells + rm.cells ≤ R.cells ∧ A.slots + rm.slots ≤ R.slots)
      (fun A _ v B => ∃ L, (Q v B.U.heap L ∧ G v B.U.vm B.U.heap) ∧ B.locs = A.locs ++ L ∧ B.cells = A.cells + rm.cells ∧ B.slots = A.slots + rm.slots ∧ CHr Z EL vm0 h B.U.vm B.U.heap) := by
  have warm : ∀ {m : MethodId} {meth : Method} {c : Code} {A : Pt}, Stand p l e R (s.setVm vm0) m args below meth c A.U A.locs A.cells A.slots → Z.Warmed39 A.U.vm := fun Y => wtrans (s := s.setVm vm0) hZ Y.warmed
  refine BackS.of_freeW (bytes := bytes) (maxL := maxL) (ret := ret) (E := fun _ first o t L k n => (k = rm.cells ∧ n = rm.slots) ∧ CHr Z EL first.vm first.heap t.vm t.heap ∧ ∃ v, o = .returned v ∧ Q v t.heap L ∧ G v t.vm t.heap) hM hf hl ?_ ?_ ?_ ?_ ?_
  · intro m meth c A a Y hp
    have wc' := mv (args := a) (warm Y) wc
    refine ⟨?_, wc', mv (warm Y) wz, hp.2.2.1, hp.2.2.2⟩
    show (Cond.and _ .tt).before a A.U = true
    rw [Cond.before_and, wc']; rfl
  · intro m meth c A a g mk Y hp
    have hr := CHv.at Y hZ hEL H
    exact ⟨hp.1, warm Y, hp.2.1, hr.1, hPV A.U.vm hr⟩
  · intros; trivial
  · rintro _ _ _ _ ⟨v, L, h1, h2, ⟨h3, h5⟩, h4⟩
    exact ⟨L, _, _, h4, ⟨rfl, rfl⟩, h3, v, h1, h2, h5⟩
  · rintro m meth c A a g mk v t L k n Y hp - - ⟨⟨rfl, rfl⟩, e5, v', e3, e4, e6⟩
    cases e3
    have hr := CHv.at Y hZ hEL H
    rw [← hp.2.1] at hr ⊢
    exact ⟨L, ⟨e4, e6⟩, rfl, rfl, rfl, hr.trans e5⟩

def QE (Z : State) (x : Addr) (h0 : Heap) (n0 : Nat) (v : Option Value) (h : Heap) (L : List Loc) : Prop := ∃ (t : Addr) (kb : ClassId), v = none ∧ Fr n0 L ∧ Keep h0 h [x] ∧ OStr Z h x t kb [] ∧ Fld Z h x "java/lang/String" "hash" "I" (.int 0) ∧ Fld Z h x "java/lang/String" "hashIsZero" "Z" (.int 0)

theorem D25_0 : decode jdk_42_method_149_code 0 = .ok (.aload_n 0, 1) := by decide +kernel
theorem D25_1 : decode jdk_42_method_149_code 1 = .ok (.invokespecial 1, 3) := by decide +kernel
theorem D25_4 : decode jdk_42_method_149_code 4 = .ok (.iload_n 3, 1) := by decide +kernel
theorem D25_5 : decode jdk_42_method_149_code 5 = .ok (.ifCond .ne 22, 3) := by decide +kernel
theorem D25_8 : decode jdk_42_method_149_code 8 = .ok (.aload_n 0, 1) := by decide +kernel
theorem D25_9 : decode jdk_42_method_149_code 9 = .ok (.ldc 7, 2) := by decide +kernel
theorem D25_11 : decode jdk_42_method_149_code 11 = .ok (.getfield 9, 3) := by decide +kernel
theorem D25_14 : decode jdk_42_method_149_code 14 = .ok (.putfield 9, 3) := by decide +kernel
theorem D25_17 : decode jdk_42_method_149_code 17 = .ok (.aload_n 0, 1) := by decide +kernel
theorem D25_18 : decode jdk_42_method_149_code 18 = .ok (.ldc 7, 2) := by decide +kernel
theorem D25_20 : decode jdk_42_method_149_code 20 = .ok (.getfield 15, 3) := by decide +kernel
theorem D25_23 : decode jdk_42_method_149_code 23 = .ok (.putfield 15, 3) := by decide +kernel
theorem D25_26 : decode jdk_42_method_149_code 26 = .ok (.return_, 1) := by decide +kernel
theorem ef_rmE4 (m : MethodId) (x0 : Addr) (x1 : Addr) (x2 : Int32) (x3 : Int32) : entryFrame m #[(.ref x0), (.ref x1), (.int x2), (.int x3), .null] 6 = mkF m 0 #[.val (.ref x0), .val (.ref x1), .val (.int x2), .val (.int x3), .val .null, .unset] [] := by first | (simp [entryFrame, mkF, argsToLocals, Value.category]; done) | rfl
set_option maxRecDepth 65536 in
set_option maxHeartbeats 40000000 in
theorem rmE4 (l : Launch) (Z : State) (a0 : Array Value) (hw : ∀ d ∈ tables_1, d.before a0 Z = true) (ws : List Jvm.Cond) (x b : Addr) (h0 : Heap) (n0 : Nat) (Z0 : n0 ≤ h0.size) (g_x : n0 ≤ x) (Ex : Exa Z h0 x "java/lang/String") (Fv : Fld Z h0 x "java/lang/String" "value" "[B" .null) (Fc : Fld Z h0 x "java/lang/String" "coder" "B" (.int 0)) (Fh : Fld Z h0 x "java/lang/String" "hash" "I" (.int 0)) (Fz : Fld Z h0 x "java/lang/String" "hashIsZero" "Z" (.int 0)) :
    MetFree l (⟨"java/lang/String", "<init>", "([CIILjava/lang/Void;)V"⟩ : MethodName) (head1 (Jvm.Cond.code (⟨"java/lang/String", "<init>", "([CIILjava/lang/Void;)V"⟩ : MethodName) jdk_42_method_149_code 6 (none) :: ws) ({ frames := 1, cells := 4, slots := 8, locals := 12 } : Room)) (fun aa U => aa = #[(.ref x), (.ref b), (.int 0), (.int 0), .null] ∧ Z.Warmed39 U.vm ∧ U.heap = h0 ∧ CHv Z EL U.vm h0) (fun _ _ _ _ _ => True) (fun _ U o U' => ∃ v L, o = .returned v ∧ QE Z x h0 n0 v U'.heap L ∧ CHr Z EL U.vm U.heap U'.vm U'.heap ∧ ReturnedEndW U o U' L ({ frames := 1, cells := 4, slots := 8, locals := 12 } : Room).cells ({ frames := 1, cells := 4, slots := 8, locals := 12 } : Room).slots) := by
  refine MetFree.of_bodySF (plainFor_of_name pn_java_lang_String) hisR ?_
  intro p e s m args below meth c s₁ Bd hml0 hP hK
  obtain ⟨rfl, hZ, hh, hCH⟩ := hP
  have hx := Bd.exec
  have hby := Bd.bytes
  have hml : c.maxLocals = 6 := hml0
  have hown : s.vm.findClass "java/lang/String" = some m.cls := findClass_of_methodNamed Bd.named
  have hnm := (name_of_methodNamed Bd.named Bd.method).1
  have X0 : Stand p l e ({ frames := 1, cells := 4, slots := 8, locals := 12 } : Room) s m #[(.ref x), (.ref b), (.int 0), (.int 0), .null] below meth c s₁ [] 0 0 := Stand.of_body Bd
  have e0 : s₁.heap = h0 := by rw [← hh, Bd.state]; rfl
  have N0 := Fr.nil n0
  have K0 := Keep.refl h0 [x]
  obtain ⟨S0, hS0⟩ : ∃ z, z = s₁.setTop (entryFrame m #[(.ref x), (.ref b), (.int 0), (.int 0), .null] 6) := ⟨_, rfl⟩
  rw [← hS0]
  have c0 : SS p e below S0 (s₁.setTop (mkF m 0 #[vr x, vr b, vi 0, vi 0, .val .null, .unset] [])) := by
    rw [hS0]; exact castTop (ef_rmE4 m x b (0 : Int32) (0 : Int32)) (Steps.refl _)
  have X0 : Stand p l e ({ frames := 1, cells := 4, slots := 8, locals := 12 } : Room) (s.setVm s.vm) m #[(.ref x), (.ref b), (.int 0), (.int 0), .null] below meth c s₁ [] 0 0 := X0
  have hS0 : s.Since s.vm 0 := own_since s
  have R0 : CHr Z EL s.vm h0 s.vm h0 := CHr.refl hCH
  have hEL := own_EW hw
  have hwS := own_strw hw
  have c1 : SS p e below S0 (s₁.setTop (mkF m 1 #[vr x, vr b, vi 0, vi 0, .val .null, .unset] [(.ref x)])) := c0.trans (by
    show SS p e below (s₁.setTop (mkF m 0 #[vr x, vr b, vi 0, vi 0, .val .null, .unset] [])) _
    refine XS.aloadN X0.here hx rfl (hb hby D25_0) rfl rfl ?_
    exact Steps.refl _)
  obtain ⟨T2, X2, e2, st2⟩ := initO X0 hx hZ hown (ww hw 16 rfl) (ww hw 17 rfl) (ww hw 18 rfl) e0 (g := (mkF m 1 #[vr x, vr b, vi 0, vi 0, .val .null, .unset] [(.ref x)])) rfl (by rw [hml]; rfl) rfl (hb hby D25_1) (by decide) (W := 0) (by show 2 * 0 + _ ≤ _; exact Nat.le_of_eq rfl) (by decide)
  have c3 : SS p e below S0 (T2.setTop (mkF m 4 #[vr x, vr b, vi 0, vi 0, .val .null, .unset] [])) := c1.trans (st2 _ (Steps.refl _))
  have c4 : SS p e below S0 (T2.setTop (mkF m 9 #[vr x, vr b, vi 0, vi 0, .val .null, .unset] [(.ref x)])) := c3.trans (by
    show SS p e below (T2.setTop (mkF m 4 #[vr x, vr b, vi 0, vi 0, .val .null, .unset] [])) _
    refine XS.iloadN X2.here hx rfl (hb hby D25_4) rfl ?_
    refine XS.ifNo X2.here hx rfl (hb hby D25_5) rfl ((if0 _ _).trans (teq (by decide : ((0 : Int32) = (0 : Int32)))).2) ?_
    refine XS.aloadN X2.here hx rfl (hb hby D25_8) rfl rfl ?_
    exact Steps.refl _)
  obtain ⟨a5, T5, h5, k5, t5, kb5, X5, e5, E5, hS5, hk5, hZ5, hown5, Ex5, Fc5, Fv5, Va5, la5, lb5, r5, -, hsf5, st5⟩ := ldcCH X2 hx hZ hown (ww hw 19 rfl) hwS e2 hS0 (Nat.zero_le _) hEL (List.mem_of_getElem? (i := 3) rfl) R0.1 (vs := []) (z := 0) ⟨by simp, rfl⟩ (by decide) rfl (g := (mkF m 9 #[vr x, vr b, vi 0, vi 0, .val .null, .unset] [(.ref x)])) rfl (hb hby D25_9) (n := 0) (by decide) (by decide) (by decide) (by decide)
  have c6 : SS p e below S0 (T5.setTop (mkF m 11 #[vr x, vr b, vi 0, vi 0, .val .null, .unset] [(.ref a5), (.ref x)])) := c4.trans (st5 _ (Steps.refl _))
  have z5 : n0 ≤ h5.size := Nat.le_trans Z0 E5.1
  have K5 := K0.ext E5
  have R5 := R0.trans r5
  obtain ⟨T7, X7, e7, st7⟩ := getF X5 hx hZ5 hown5 (host := "") (Or.inl (ww hw 25 rfl)) Via.refl e5 Fv5 (g := (mkF m 11 #[vr x, vr b, vi 0, vi 0, .val .null, .unset] [(.ref a5), (.ref x)])) rfl rfl (hb hby D25_11)
  have c8 : SS p e below S0 (T7.setTop (mkF m 14 #[vr x, vr b, vi 0, vi 0, .val .null, .unset] [(.ref t5), (.ref x)])) := c6.trans (st7 _ (Steps.refl _))
  obtain ⟨T9, h9, X9, e9, W9, st9⟩ := putF X7 hx hZ5 hown5 (host := "") (Or.inl (ww hw 25 rfl)) Via.refl e7 (Fv.ext E5) (Ex.ext E5) (Or.inr ⟨(ww hw 21 rfl), rfl, hnm⟩) (ww hw 6 rfl) (ty := (.array .byte)) (by decide) rfl rfl (g := (mkF m 14 #[vr x, vr b, vi 0, vi 0, .val .null, .unset] [(.ref t5), (.ref x)])) rfl rfl (hb hby D25_14)
  have c10 : SS p e below S0 (T9.setTop (mkF m 17 #[vr x, vr b, vi 0, vi 0, .val .null, .unset] [])) := c8.trans (st9 _ (Steps.refl _))
  have N9 := Fr.snoc X9 N0 g_x
  have Fw9 := (Fv.ext E5).same W9
  have z9 : n0 ≤ h9.size := Nat.le_trans z5 (Keep.of_wr W9).1
  have K9 := K5.wr W9 (Or.inl (by simp))
  have r9 : CHr Z EL T5.vm h5 T5.vm h9 := CHr.wr W9 (r5.safe Ex.lt (own_safe hZ.alike Ex Fv)) R5.1
  have R9 := R5.trans r9
  have c11 : SS p e below S0 (T9.setTop (mkF m 18 #[vr x, vr b, vi 0, vi 0, .val .null, .unset] [(.ref x)])) := c10.trans (by
    show SS p e below (T9.setTop (mkF m 17 #[vr x, vr b, vi 0, vi 0, .val .null, .unset] [])) _
    refine XS.aloadN X9.here hx rfl (hb hby D25_17) rfl rfl ?_
    exact Steps.refl _)
  obtain ⟨a12, T12, h12, k12, t12, kb12, X12, e12, E12, hS12, hk12, hZ12, hown12, Ex12, Fc12, Fv12, Va12, la12, lb12, r12, -, hsf12, st12⟩ := ldcCH X9 hx hZ5 hown5 (ww hw 19 rfl) hwS e9 hS5 (Nat.le_trans hk5 (Keep.of_wr W9).1) hEL (List.mem_of_getElem? (i := 3) rfl) R9.1 (vs := []) (z := 0) ⟨by simp, rfl⟩ (by decide) rfl (g := (mkF m 18 #[vr x, vr b, vi 0, vi 0, .val .null, .unset] [(.ref x)])) rfl (hb hby D25_18) (n := 0) (by decide) (by decide) (by decide) (by decide)
  have c13 : SS p e below S0 (T12.setTop (mkF m 20 #[vr x, vr b, vi 0, vi 0, .val .null, .unset] [(.ref a12), (.ref x)])) := c11.trans (st12 _ (Steps.refl _))
  have z12 : n0 ≤ h12.size := Nat.le_trans z9 E12.1
  have K12 := K9.ext E12
  have R12 := R9.trans r12
  obtain ⟨T14, X14, e14, st14⟩ := getF X12 hx hZ12 hown12 (host := "") (Or.inl (ww hw 26 rfl)) Via.refl e12 Fc12 (g := (mkF m 20 #[vr x, vr b, vi 0, vi 0, .val .null, .unset] [(.ref a12), (.ref x)])) rfl rfl (hb hby D25_20)
  have c15 : SS p e below S0 (T14.setTop (mkF m 23 #[vr x, vr b, vi 0, vi 0, .val .null, .unset] [(.int 0), (.ref x)])) := c13.trans (st14 _ (Steps.refl _))
  obtain ⟨T16, h16, X16, e16, W16, st16⟩ := putFN X14 hx hZ12 hown12 (ww hw 26 rfl) Via.refl e14 (((Fc.ext E5).other W9 (Or.inr (slot_ne (Or.inr (ww hw 22 rfl)) (Or.inr (ww hw 21 rfl)) (by decide) (t := .byte) (t' := (.array .byte)) (by decide) (by decide)))).ext E12) (((Ex.ext E5).wr W9).ext E12) (Or.inr ⟨(ww hw 22 rfl), rfl, hnm⟩) (ww hw 6 rfl) (ty := .byte) (v' := (.int 0)) (by decide) rfl rfl (g := (mkF m 23 #[vr x, vr b, vi 0, vi 0, .val .null, .unset] [(.int 0), (.ref x)])) rfl rfl (hb hby D25_23)
  have c17 : SS p e below S0 (T16.setTop (mkF m 26 #[vr x, vr b, vi 0, vi 0, .val .null, .unset] [])) := c15.trans (st16 _ (Steps.refl _))
  have N16 := Fr.snoc X16 N9 g_x
  have Fw16 := (((Fc.ext E5).other W9 (Or.inr (slot_ne (Or.inr (ww hw 22 rfl)) (Or.inr (ww hw 21 rfl)) (by decide) (t := .byte) (t' := (.array .byte)) (by decide) (by decide)))).ext E12).same W16
  have z16 : n0 ≤ h16.size := Nat.le_trans z12 (Keep.of_wr W16).1
  have K16 := K12.wr W16 (Or.inl (by simp))
  have r16 : CHr Z EL T12.vm h12 T12.vm h16 := CHr.wr W16 (r12.safe Fw9.lt (r9.safe (Nat.lt_of_lt_of_le Ex.lt E5.1) (r5.safe Ex.lt (own_safe hZ.alike Ex Fv)))) R12.1
  have R16 := R12.trans r16
  obtain ⟨fs, hr, hrun, hended, hW⟩ := X16.leaveW hS12 (by rw [e16]; exact (Nat.le_trans hk12 (Keep.of_wr W16).1)) (v := none) (fun h => rfl)
  refine ⟨_, _, c17.trans (X16.returnOut hx Bd.returns (hb hby D25_26) hr), hrun, hended, _, _, rfl, ?_, ?_, hW.1, hW.2.1, hW.2.2.1, hW.2.2.2.mono (by first | decide | exact Nat.le_of_ble_eq_true rfl) (by first | decide | exact Nat.le_of_ble_eq_true rfl)⟩
  · show QE Z x h0 n0 _ T16.heap _
    rw [e16]
    exact ⟨_, _, rfl, N16, K16, ⟨((((Ex.ext E5).wr W9).ext E12).wr W16), ((Fw9.ext E12).other W16 (Or.inr (slot_ne (Or.inr (ww hw 21 rfl)) (Or.inr (ww hw 22 rfl)) (by decide) (t := (.array .byte)) (t' := .byte) (by decide) (by decide)))), Fw16, (((Va5.other W9 (Ne.symm (Exa.neArv (Ex.ext E5) Va5 (ww hw 6 rfl)))).ext E12).other W16 (Ne.symm (Exa.neArv (Ex.ext E5) Va5 (ww hw 6 rfl)))), own_al0, Nat.zero_le _⟩, ((((Fh.ext E5).other W9 (Or.inr (slot_ne (Or.inl (ww hw 51 rfl)) (Or.inr (ww hw 21 rfl)) (by decide) (t := .int) (t' := (.array .byte)) (by decide) (by decide)))).ext E12).other W16 (Or.inr (slot_ne (Or.inl (ww hw 51 rfl)) (Or.inr (ww hw 22 rfl)) (by decide) (t := .int) (t' := .byte) (by decide) (by decide)))), ((((Fz.ext E5).other W9 (Or.inr (slot_ne (Or.inl (ww hw 53 rfl)) (Or.inr (ww hw 21 rfl)) (by decide) (t := .boolean) (t' := (.array .byte)) (by decide) (by decide)))).ext E12).other W16 (Or.inr (slot_ne (Or.inl (ww hw 53 rfl)) (Or.inr (ww hw 22 rfl)) (by decide) (t := .boolean) (t' := .byte) (by decide) (by decide))))⟩
  · show CHr Z EL s.vm s.heap T16.vm T16.heap
    rw [hh, e16]; exact R16.trans (CHv.at X16 hZ12 hEL R16.1)

theorem D26_0 : decode jdk_42_method_3_code 0 = .ok (.aload_n 0, 1) := by decide +kernel
theorem D26_1 : decode jdk_42_method_3_code 1 = .ok (.aload_n 1, 1) := by decide +kernel
theorem D26_2 : decode jdk_42_method_3_code 2 = .ok (.iconst 0, 1) := by decide +kernel
theorem D26_3 : decode jdk_42_method_3_code 3 = .ok (.aload_n 1, 1) := by decide +kernel
theorem D26_4 : decode jdk_42_method_3_code 4 = .ok (.arraylength, 1) := by decide +kernel
theorem D26_5 : decode jdk_42_method_3_code 5 = .ok (.aconst_null, 1) := by decide +kernel
theorem pd_oaCIILjavaslangsVoidecV : parseMethodDescriptor "([CIILjava/lang/Void;)V" = some ⟨[(.array .char), .int, .int, (.object "java/lang/Void")], none⟩ := by decide +kernel
theorem D26_6 : decode jdk_42_method_3_code 6 = .ok (.invokespecial 27, 3) := by decide +kernel
theorem D26_9 : decode jdk_42_method_3_code 9 = .ok (.return_, 1) := by decide +kernel
theorem ef_rmE1 (m : MethodId) (x0 : Addr) (x1 : Addr) : entryFrame m #[(.ref x0), (.ref x1)] 2 = mkF m 0 #[.val (.ref x0), .val (.ref x1)] [] := by first | (simp [entryFrame, mkF, argsToLocals, Value.category]; done) | rfl
set_option maxRecDepth 65536 in
set_option maxHeartbeats 40000000 in
theorem rmE1 (l : Launch) (Z : State) (a0 : Array Value) (hw : ∀ d ∈ tables_1, d.before a0 Z = true) (ws : List Jvm.Cond) (x b : Addr) (k : ClassId) (dv : Value) (h0 : Heap) (n0 : Nat) (Z0 : n0 ≤ h0.size) (g_x : n0 ≤ x) (Ex : Exa Z h0 x "java/lang/String") (Fv : Fld Z h0 x "java/lang/String" "value" "[B" .null) (Fc : Fld Z h0 x "java/lang/String" "coder" "B" (.int 0)) (Fh : Fld Z h0 x "java/lang/String" "hash" "I" (.int 0)) (Fz : Fld Z h0 x "java/lang/String" "hashIsZero" "Z" (.int 0)) (Vb : Arv Z h0 b k .char (0 : Int32) [] dv) :
    MetFree l (⟨"java/lang/String", "<init>", "([C)V"⟩ : MethodName) (head1 (Jvm.Cond.code (⟨"java/lang/String", "<init>", "([C)V"⟩ : MethodName) jdk_42_method_3_code 2 (none) :: ws) ({ frames := 2, cells := 4, slots := 8, locals := 29 } : Room)) (fun aa U => aa = #[(.ref x), (.ref b)] ∧ Z.Warmed39 U.vm ∧ U.heap = h0 ∧ CHv Z EL U.vm h0) (fun _ _ _ _ _ => True) (fun _ U o U' => ∃ v L, o = .returned v ∧ QE Z x h0 n0 v U'.heap L ∧ CHr Z EL U.vm U.heap U'.vm U'.heap ∧ ReturnedEndW U o U' L ({ frames := 2, cells := 4, slots := 8, locals := 29 } : Room).cells ({ frames := 2, cells := 4, slots := 8, locals := 29 } : Room).slots) := by
  refine MetFree.of_bodySF (plainFor_of_name pn_java_lang_String) hisR ?_
  intro p e s m args below meth c s₁ Bd hml0 hP hK
  obtain ⟨rfl, hZ, hh, hCH⟩ := hP
  have hx := Bd.exec
  have hby := Bd.bytes
  have hml : c.maxLocals = 2 := hml0
  have hown : s.vm.findClass "java/lang/String" = some m.cls := findClass_of_methodNamed Bd.named
  have hnm := (name_of_methodNamed Bd.named Bd.method).1
  have X0 : Stand p l e ({ frames := 2, cells := 4, slots := 8, locals := 29 } : Room) s m #[(.ref x), (.ref b)] below meth c s₁ [] 0 0 := Stand.of_body Bd
  have e0 : s₁.heap = h0 := by rw [← hh, Bd.state]; rfl
  have N0 := Fr.nil n0
  have K0 := Keep.refl h0 [x]
  obtain ⟨S0, hS0⟩ : ∃ z, z = s₁.setTop (entryFrame m #[(.ref x), (.ref b)] 2) := ⟨_, rfl⟩
  rw [← hS0]
  have c0 : SS p e below S0 (s₁.setTop (mkF m 0 #[vr x, vr b] [])) := by
    rw [hS0]; exact castTop (ef_rmE1 m x b) (Steps.refl _)
  have X0 : Stand p l e ({ frames := 2, cells := 4, slots := 8, locals := 29 } : Room) (s.setVm s.vm) m #[(.ref x), (.ref b)] below meth c s₁ [] 0 0 := X0
  have hS0 : s.Since s.vm 0 := own_since s
  have R0 : CHr Z EL s.vm h0 s.vm h0 := CHr.refl hCH
  have hEL := own_EW hw
  have hwS := own_strw hw
  have c1 : SS p e below S0 (s₁.setTop (mkF m 4 #[vr x, vr b] [(.ref b), (.int 0), (.ref b), (.ref x)])) := c0.trans (by
    show SS p e below (s₁.setTop (mkF m 0 #[vr x, vr b] [])) _
    refine XS.aloadN X0.here hx rfl (hb hby D26_0) rfl rfl ?_
    refine XS.aloadN X0.here hx rfl (hb hby D26_1) rfl rfl ?_
    refine XS.iconst X0.here hx rfl (hb hby D26_2) ?_
    refine XS.aloadN X0.here hx rfl (hb hby D26_3) rfl rfl ?_
    exact Steps.refl _)
  obtain ⟨cl2, Ar2, -, S2, Nn2, -, -⟩ := id Vb
  have c3 : SS p e below S0 (s₁.setTop (mkF m 6 #[vr x, vr b] [.null, (.int 0), (.int 0), (.ref b), (.ref x)])) := c1.trans (by
    show SS p e below (s₁.setTop (mkF m 4 #[vr x, vr b] [(.ref b), (.int 0), (.ref b), (.ref x)])) _
    refine X0.arraylength hx (by rw [e0]; exact Ar2.1) (State.isArrayOf_alike hZ.alike Ar2.2.1) (g := (mkF m 4 #[vr x, vr b] [(.ref b), (.int 0), (.ref b), (.ref x)])) rfl rfl (hb hby D26_4) _ ?_
    rw [len_of S2 Nn2]
    refine XS.aconstNull X0.here hx rfl (hb hby D26_5) ?_
    exact Steps.refl _)
  obtain ⟨_, _, ⟨T4, L4, kk4, nn4⟩, -, Xx4, hSx4, hgx4, ⟨Lc4, hQ4, l4, y4, z4, r4⟩, st4⟩ := X0.specialBackS hx (y := (⟨"java/lang/String", "<init>", "([CIILjava/lang/Void;)V"⟩ : MethodName)) rfl hown (mvT hZ (ww hw 12 rfl)) (mvT hZ (ww hw 13 rfl)) (mvT hZ (ww hw 15 rfl)) (by decide) (backOfSH (W := 0) (rmE4 l Z a0 hw [] x b h0 n0 Z0 g_x Ex Fv Fc Fh Fz) hZ (ww hw 15 rfl) (ww hw 7 rfl) (by decide) (by decide) hEL R0.1) (g := (mkF m 6 #[vr x, vr b] [.null, (.int 0), (.int 0), (.ref b), (.ref x)])) rfl (by rw [hml]; rfl) (Steps.refl _) (a := x) (argsL := [(.ref b), (.int 0), (.int 0), .null]) (rest := []) (lenOf pd_oaCIILjavaslangsVoidecV rfl) rfl (by show 2 * 0 + _ ≤ _; exact Nat.le_of_eq rfl) (hb hby D26_6) (fun _ _ => ⟨rfl, e0, (by decide : 0 + 4 ≤ _), (by decide : 0 + 8 ≤ _)⟩)
  dsimp only [Pt.U, Pt.locs, Pt.cells, Pt.slots] at Xx4 hSx4 hgx4 l4 y4 z4 r4 st4 hQ4
  subst l4 y4 z4
  obtain ⟨X4, hS4, hZ4, hown4⟩ := rebS hS0 (Nat.zero_le _) Xx4 hSx4 (e0 ▸ hgx4) hZ hown
  obtain ⟨t4, kb4, rfl, Nq4, Kq4, So4, Sh4, Sz4⟩ := hQ4
  have c5 : SS p e below S0 (T4.setTop (mkF m 9 #[vr x, vr b] [])) := c3.trans (st4)
  have N4 := Fr.app N0 Nq4
  have z4 : n0 ≤ T4.heap.size := Nat.le_trans Z0 Kq4.1
  have K4 := K0.trans Kq4 (allS (Or.inl (by simp)) all0)
  have R4 := R0.trans r4
  obtain ⟨fs, hr, hrun, hended, hW⟩ := X4.leaveW hS4 (Nat.le_refl _) (v := none) (fun h => rfl)
  refine ⟨_, _, c5.trans (X4.returnOut hx Bd.returns (hb hby D26_9) hr), hrun, hended, _, _, rfl, ?_, ?_, hW.1, hW.2.1, hW.2.2.1, hW.2.2.2.mono (by first | decide | exact Nat.le_of_ble_eq_true rfl) (by first | decide | exact Nat.le_of_ble_eq_true rfl)⟩
  · show QE Z x h0 n0 _ T4.heap _
    exact ⟨_, _, rfl, N4, K4, So4, Sh4, Sz4⟩
  · show CHr Z EL s.vm s.heap T4.vm T4.heap
    rw [hh]; exact R4.trans (CHv.at X4 hZ4 hEL R4.1)

def QrmRnn2 (Z : State) (x : Addr) (h0 : Heap) (n0 : Nat) (v : Option Value) (h : Heap) (L : List Loc) : Prop := v = some (.ref x) ∧ Fr n0 L ∧ h = h0

theorem D27_0 : decode jdk_31_method_11_code 0 = .ok (.aload_n 0, 1) := by decide +kernel
theorem D27_1 : decode jdk_31_method_11_code 1 = .ok (.ifnonnull 12, 3) := by decide +kernel
theorem D27_13 : decode jdk_31_method_11_code 13 = .ok (.aload_n 0, 1) := by decide +kernel
theorem D27_14 : decode jdk_31_method_11_code 14 = .ok (.areturn, 1) := by decide +kernel
theorem pn_java_util_Objects : plainName "java/util/Objects" = true := by first | (simp [plainName, overriddenIn]; done) | decide +kernel
theorem ef_rmRnn2 (m : MethodId) (x0 : Addr) (x1 : Addr) : entryFrame m #[(.ref x0), (.ref x1)] 2 = mkF m 0 #[.val (.ref x0), .val (.ref x1)] [] := by first | (simp [entryFrame, mkF, argsToLocals, Value.category]; done) | rfl
set_option maxRecDepth 65536 in
set_option maxHeartbeats 40000000 in
theorem rmRnn2 (l : Launch) (Z : State) (a0 : Array Value) (hw : ∀ d ∈ tables_1, d.before a0 Z = true) (ws : List Jvm.Cond) (x ms : Addr) (h0 : Heap) (n0 : Nat) (Z0 : n0 ≤ h0.size)  :
    MetFree l (⟨"java/util/Objects", "requireNonNull", "(Ljava/lang/Object;Ljava/lang/String;)Ljava/lang/Object;"⟩ : MethodName) (head1 (Jvm.Cond.code (⟨"java/util/Objects", "requireNonNull", "(Ljava/lang/Object;Ljava/lang/String;)Ljava/lang/Object;"⟩ : MethodName) jdk_31_method_11_code 2 (some (.object "java/lang/Object")) :: ws) ({ frames := 0, cells := 0, slots := 0, locals := 0 } : Room)) (fun aa U => aa = #[(.ref x), (.ref ms)] ∧ Z.Warmed39 U.vm ∧ U.heap = h0) (fun _ _ _ _ _ => True) (fun _ U o U' => ∃ v L, o = .returned v ∧ QrmRnn2 Z x h0 n0 v U'.heap L ∧ FrameEnd U o U' L ({ frames := 0, cells := 0, slots := 0, locals := 0 } : Room).cells ({ frames := 0, cells := 0, slots := 0, locals := 0 } : Room).slots) := by
  refine MetFree.of_bodySF (plainFor_of_name pn_java_util_Objects) hisR ?_
  intro p e s m args below meth c s₁ Bd hml0 hP hK
  obtain ⟨rfl, hZ, hh⟩ := hP
  have hx := Bd.exec
  have hby := Bd.bytes
  have hml : c.maxLocals = 2 := hml0
  have hown : s.vm.findClass "java/util/Objects" = some m.cls := findClass_of_methodNamed Bd.named
  have hnm := (name_of_methodNamed Bd.named Bd.method).1
  have X0 : Stand p l e ({ frames := 0, cells := 0, slots := 0, locals := 0 } : Room) s m #[(.ref x), (.ref ms)] below meth c s₁ [] 0 0 := Stand.of_body Bd
  have e0 : s₁.heap = h0 := by rw [← hh, Bd.state]; rfl
  have N0 := Fr.nil n0
  have K0 := Keep.refl h0 []
  obtain ⟨S0, hS0⟩ : ∃ z, z = s₁.setTop (entryFrame m #[(.ref x), (.ref ms)] 2) := ⟨_, rfl⟩
  rw [← hS0]
  have c0 : SS p e below S0 (s₁.setTop (mkF m 0 #[vr x, vr ms] [])) := by
    rw [hS0]; exact castTop (ef_rmRnn2 m x ms) (Steps.refl _)
  have c1 : SS p e below S0 (s₁.setTop (mkF m 14 #[vr x, vr ms] [(.ref x)])) := c0.trans (by
    show SS p e below (s₁.setTop (mkF m 0 #[vr x, vr ms] [])) _
    refine XS.aloadN X0.here hx rfl (hb hby D27_0) rfl rfl ?_
    refine XS.ifnonnullYes X0.here hx rfl (pc0 := 1) (pc' := 13) rfl (hb hby D27_1) rfl (by decide) (by decide) ?_
    refine XS.aloadN X0.here hx rfl (hb hby D27_13) rfl rfl ?_
    exact Steps.refl _)
  obtain ⟨fs, hr, hrun, hended, hW, hsame⟩ := X0.leave (v := some (.ref x)) (fun h => by rw [Bd.returns] at h; cases h)
  refine ⟨_, _, c1.trans (retOut X0 hx Bd.returns rfl (Or.inr (Or.inr (Or.inr (Or.inr ⟨rfl, rfl, rfl⟩)))) (hb hby D27_14) hr), hrun, hended, _, _, rfl, ?_, ⟨_, rfl⟩, hW, hsame.mono (by first | decide | exact Nat.le_of_ble_eq_true rfl) (by first | decide | exact Nat.le_of_ble_eq_true rfl)⟩
  show QrmRnn2 Z x h0 n0 _ s₁.heap _
  rw [e0]
  exact ⟨rfl, N0, rfl⟩

def own_mk (len c d : Int32) : List Int32 := if len = 0 then [] else if len = 1 then [c] else [c, d]

def QMk (Z : State) (cs : List Int32) (h0 : Heap) (n0 : Nat) (v : Option Value) (h : Heap) (L : List Loc) : Prop := ∃ (x t : Addr) (kb : ClassId), v = some (.ref x) ∧ Fr n0 L ∧ Keep h0 h [] ∧ h0.size ≤ x ∧ OStrH Z h x t kb cs

theorem D28_0 : decode method_3_code 0 = .ok (.iload_n 0, 1) := by decide +kernel
theorem D28_1 : decode method_3_code 1 = .ok (.ifCond .ne 14, 3) := by decide +kernel
theorem D28_4 : decode method_3_code 4 = .ok (.new 24, 3) := by decide +kernel
theorem D28_7 : decode method_3_code 7 = .ok (.dup, 1) := by decide +kernel
theorem D28_8 : decode method_3_code 8 = .ok (.iconst 0, 1) := by decide +kernel
theorem D28_9 : decode method_3_code 9 = .ok (.newarray .char, 2) := by decide +kernel
theorem pd_oaCcV : parseMethodDescriptor "([C)V" = some ⟨[(.array .char)], none⟩ := by decide +kernel
theorem D28_11 : decode method_3_code 11 = .ok (.invokespecial 33, 3) := by decide +kernel
theorem D28_14 : decode method_3_code 14 = .ok (.areturn, 1) := by decide +kernel
theorem D28_15 : decode method_3_code 15 = .ok (.iload_n 0, 1) := by decide +kernel
theorem D28_16 : decode method_3_code 16 = .ok (.iconst 1, 1) := by decide +kernel
theorem D28_17 : decode method_3_code 17 = .ok (.if_icmp .ne 18, 3) := by decide +kernel
theorem D28_20 : decode method_3_code 20 = .ok (.new 24, 3) := by decide +kernel
theorem D28_23 : decode method_3_code 23 = .ok (.dup, 1) := by decide +kernel
theorem D28_24 : decode method_3_code 24 = .ok (.iconst 1, 1) := by decide +kernel
theorem D28_25 : decode method_3_code 25 = .ok (.newarray .char, 2) := by decide +kernel
theorem D28_27 : decode method_3_code 27 = .ok (.dup, 1) := by decide +kernel
theorem D28_28 : decode method_3_code 28 = .ok (.iconst 0, 1) := by decide +kernel
theorem D28_29 : decode method_3_code 29 = .ok (.iload_n 1, 1) := by decide +kernel
theorem D28_30 : decode method_3_code 30 = .ok (.castore, 1) := by decide +kernel
theorem D28_31 : decode method_3_code 31 = .ok (.invokespecial 33, 3) := by decide +kernel
theorem D28_34 : decode method_3_code 34 = .ok (.areturn, 1) := by decide +kernel
theorem D28_35 : decode method_3_code 35 = .ok (.new 24, 3) := by decide +kernel
theorem D28_38 : decode method_3_code 38 = .ok (.dup, 1) := by decide +kernel
theorem D28_39 : decode method_3_code 39 = .ok (.iconst 2, 1) := by decide +kernel
theorem D28_40 : decode method_3_code 40 = .ok (.newarray .char, 2) := by decide +kernel
theorem D28_42 : decode method_3_code 42 = .ok (.dup, 1) := by decide +kernel
theorem D28_43 : decode method_3_code 43 = .ok (.iconst 0, 1) := by decide +kernel
theorem D28_44 : decode method_3_code 44 = .ok (.iload_n 1, 1) := by decide +kernel
theorem D28_45 : decode method_3_code 45 = .ok (.castore, 1) := by decide +kernel
theorem D28_46 : decode method_3_code 46 = .ok (.dup, 1) := by decide +kernel
theorem D28_47 : decode method_3_code 47 = .ok (.iconst 1, 1) := by decide +kernel
theorem D28_48 : decode method_3_code 48 = .ok (.iload_n 2, 1) := by decide +kernel
theorem D28_49 : decode method_3_code 49 = .ok (.castore, 1) := by decide +kernel
theorem D28_50 : decode method_3_code 50 = .ok (.invokespecial 33, 3) := by decide +kernel
theorem D28_53 : decode method_3_code 53 = .ok (.areturn, 1) := by decide +kernel
theorem pn_com_example_evenkeel_evenkeel_RouteToStringPinLaw : plainName "com/example/evenkeel/evenkeel/RouteToStringPinLaw" = true := by first | (simp [plainName, overriddenIn]; done) | decide +kernel
theorem ef_rmMk (m : MethodId) (x0 : Int32) (x1 : Int32) (x2 : Int32) : entryFrame m #[(.int x0), (.int x1), (.int x2)] 3 = mkF m 0 #[.val (.int x0), .val (.int x1), .val (.int x2)] [] := by first | (simp [entryFrame, mkF, argsToLocals, Value.category]; done) | rfl
set_option maxRecDepth 65536 in
set_option maxHeartbeats 40000000 in
theorem rmMk (l : Launch) (Z : State) (a0 : Array Value) (hw : ∀ d ∈ tables_1, d.before a0 Z = true) (ws : List Jvm.Cond) (p0 p1 p2 : Int32) (G1 : Int32) (h0 : Heap) (n0 : Nat) (Z0 : n0 ≤ h0.size) (h8p1 : C8 p1) (h8p2 : C8 p2) (O2 : Sta Z Z.heap "java/lang/String" "COMPACT_STRINGS" "Z" (.int G1)) (P5 : ¬ G1 = 0) (X00 : Old Z n0 h0) :
    MetFree l (⟨"com/example/evenkeel/evenkeel/RouteToStringPinLaw", "mk", "(ICC)Ljava/lang/String;"⟩ : MethodName) (head1 (Jvm.Cond.code (⟨"com/example/evenkeel/evenkeel/RouteToStringPinLaw", "mk", "(ICC)Ljava/lang/String;"⟩ : MethodName) method_3_code 3 (some (.object "java/lang/String")) :: ws) ({ frames := 4, cells := 6, slots := 12, locals := 66 } : Room)) (fun aa U => aa = #[(.int p0), (.int p1), (.int p2)] ∧ Z.Warmed39 U.vm ∧ U.heap = h0 ∧ CHv Z EL U.vm h0 ∧ PT Z U.vm) (fun _ _ _ _ _ => True) (fun _ U o U' => ∃ v L, o = .returned v ∧ QMk Z (own_mk p0 p1 p2) h0 n0 v U'.heap L ∧ (CHr Z EL U.vm U.heap U'.vm U'.heap ∧ GMk Z v U'.vm U'.heap) ∧ ReturnedEndW U o U' L ({ frames := 4, cells := 6, slots := 12, locals := 66 } : Room).cells ({ frames := 4, cells := 6, slots := 12, locals := 66 } : Room).slots) := by
  refine MetFree.of_bodySF (plainFor_of_name pn_com_example_evenkeel_evenkeel_RouteToStringPinLaw) hisR ?_
  intro p e s m args below meth c s₁ Bd hml0 hP hK
  obtain ⟨rfl, hZ, hh, hCH, hPV⟩ := hP
  have hx := Bd.exec
  have hby := Bd.bytes
  have hml : c.maxLocals = 3 := hml0
  have hown : s.vm.findClass "com/example/evenkeel/evenkeel/RouteToStringPinLaw" = some m.cls := findClass_of_methodNamed Bd.named
  have hnm := (name_of_methodNamed Bd.named Bd.method).1
  have X0 : Stand p l e ({ frames := 4, cells := 6, slots := 12, locals := 66 } : Room) s m #[(.int p0), (.int p1), (.int p2)] below meth c s₁ [] 0 0 := Stand.of_body Bd
  have e0 : s₁.heap = h0 := by rw [← hh, Bd.state]; rfl
  have N0 := Fr.nil n0
  have K0 := Keep.refl h0 []
  obtain ⟨S0, hS0⟩ : ∃ z, z = s₁.setTop (entryFrame m #[(.int p0), (.int p1), (.int p2)] 3) := ⟨_, rfl⟩
  rw [← hS0]
  have c0 : SS p e below S0 (s₁.setTop (mkF m 0 #[vi p0, vi p1, vi p2] [])) := by
    rw [hS0]; exact castTop (ef_rmMk m p0 p1 p2) (Steps.refl _)
  have X0 : Stand p l e ({ frames := 4, cells := 6, slots := 12, locals := 66 } : Room) (s.setVm s.vm) m #[(.int p0), (.int p1), (.int p2)] below meth c s₁ [] 0 0 := X0
  have hS0 : s.Since s.vm 0 := own_since s
  have R0 : CHr Z EL s.vm h0 s.vm h0 := CHr.refl hCH
  have hEL := own_EW hw
  have hwS := own_strw hw
  have c1 : SS p e below S0 (s₁.setTop (mkF m 1 #[vi p0, vi p1, vi p2] [(.int p0)])) := c0.trans (by
    show SS p e below (s₁.setTop (mkF m 0 #[vi p0, vi p1, vi p2] [])) _
    refine XS.iloadN X0.here hx rfl (hb hby D28_0) rfl ?_
    exact Steps.refl _)
  by_cases hq2 : p0 = (0 : Int32)
  · have c3 : SS p e below S0 (s₁.setTop (mkF m 4 #[vi p0, vi p1, vi p2] [])) := c1.trans (by
      show SS p e below (s₁.setTop (mkF m 1 #[vi p0, vi p1, vi p2] [(.int p0)])) _
      refine XS.ifNo X0.here hx rfl (hb hby D28_1) rfl ((if0 _ _).trans (teq hq2).2) ?_
      exact Steps.refl _)
    obtain ⟨T4, h4, X4, e4, E4, A4, D4, -, st4⟩ := newO X0 hx hZ hown (ww hw 5 rfl) (ww hw 6 rfl) (ww hw 7 rfl) e0 (g := (mkF m 4 #[vi p0, vi p1, vi p2] [])) rfl (hb hby D28_4) (by decide) (by decide)
    obtain ⟨b4, g4⟩ : ∃ z, z = h0.size := ⟨_, rfl⟩
    rw [← g4] at A4 D4 st4
    have sn4 : Safe Z EL s.vm h0 b4 := Safe.new (Nat.le_of_eq g4.symm)
    have c5 : SS p e below S0 (T4.setTop (mkF m 7 #[vi p0, vi p1, vi p2] [(.ref b4)])) := c3.trans (st4 _ (Steps.refl _))
    have z4 : n0 ≤ h4.size := Nat.le_trans Z0 E4.1
    have K4 := K0.ext E4
    have r4 : CHr Z EL s.vm h0 s.vm h4 := CHr.ext E4 R0.1
    have R4 := R0.trans r4
    have lt_b4 : b4 < h4.size := A4.lt
    have sf4 : Safe Z EL s.vm h4 b4 := Safe.ext E4 R0.1 sn4
    have F4_value : Fld Z h4 b4 "java/lang/String" "value" "[B" .null := D4 (Or.inr (ww hw 21 rfl)) (ty := (.array .byte)) (by decide)
    have F4_coder : Fld Z h4 b4 "java/lang/String" "coder" "B" (.int 0) := D4 (Or.inr (ww hw 22 rfl)) (ty := .byte) (by decide)
    have F4_hash : Fld Z h4 b4 "java/lang/String" "hash" "I" (.int 0) := D4 (Or.inl (ww hw 51 rfl)) (ty := .int) (by decide)
    have F4_hashIsZero : Fld Z h4 b4 "java/lang/String" "hashIsZero" "Z" (.int 0) := D4 (Or.inl (ww hw 53 rfl)) (ty := .boolean) (by decide)
    have c6 : SS p e below S0 (T4.setTop (mkF m 9 #[vi p0, vi p1, vi p2] [(.int 0), (.ref b4), (.ref b4)])) := c5.trans (by
      show SS p e below (T4.setTop (mkF m 7 #[vi p0, vi p1, vi p2] [(.ref b4)])) _
      refine XS.dup X4.here hx rfl (hb hby D28_7) rfl rfl ?_
      refine XS.iconst X4.here hx rfl (hb hby D28_8) ?_
      exact Steps.refl _)
    obtain ⟨T7, h7, k7, X7, e7, E7, A7, st7⟩ := newP X4 hx hZ (ww hw 8 rfl) e4 (g := (mkF m 9 #[vi p0, vi p1, vi p2] [(.int 0), (.ref b4), (.ref b4)])) rfl (hb hby D28_9) rfl (by decide) (cap := 0) (by decide) (by decide) (by decide) (by decide)
    obtain ⟨b7, g7⟩ : ∃ z, z = h4.size := ⟨_, rfl⟩
    rw [← g7] at A7 st7
    have c8 : SS p e below S0 (T7.setTop (mkF m 11 #[vi p0, vi p1, vi p2] [(.ref b7), (.ref b4), (.ref b4)])) := c6.trans (st7 _ (Steps.refl _))
    have z7 : n0 ≤ h7.size := Nat.le_trans z4 E7.1
    have K7 := K4.ext E7
    have r7 : CHr Z EL s.vm h4 s.vm h7 := CHr.ext E7 R4.1
    have R7 := R4.trans r7
    have V7 : Arv Z h7 b7 k7 .char (0 : Int32) [] (.int 0) := (Arv.new A7 (by decide)).pad (pad_rep [] (.int 0) 0)
    have lt_b7 : b7 < h7.size := V7.lt
    obtain ⟨_, _, ⟨T9, L9, kk9, nn9⟩, -, Xx9, hSx9, hgx9, ⟨Lc9, hQ9, l9, y9, z9, r9⟩, st9⟩ := X7.specialBackS hx (y := (⟨"java/lang/String", "<init>", "([C)V"⟩ : MethodName)) rfl hown (mvT hZ (ww hw 9 rfl)) (mvT hZ (ww hw 10 rfl)) (mvT hZ (ww hw 11 rfl)) (by decide) (backOfSH (W := 1) (rmE1 l Z a0 hw [] b4 b7 _ _ h7 n0 z7 (Nat.le_trans Z0 (Nat.le_trans K0.1 (Nat.le_of_eq g4.symm))) (A4.ext E7) (F4_value.ext E7) (F4_coder.ext E7) (F4_hash.ext E7) (F4_hashIsZero.ext E7) V7) hZ (ww hw 11 rfl) (ww hw 7 rfl) (by decide) (by decide) hEL R7.1) (g := (mkF m 11 #[vi p0, vi p1, vi p2] [(.ref b7), (.ref b4), (.ref b4)])) rfl (by rw [hml]; rfl) (Steps.refl _) (a := b4) (argsL := [(.ref b7)]) (rest := [(.ref b4)]) (lenOf pd_oaCcV rfl) rfl (by show 2 * 0 + _ ≤ _; exact Nat.le_of_eq rfl) (hb hby D28_11) (fun _ _ => ⟨rfl, e7, (by decide : 2 + 4 ≤ _), (by decide : 4 + 8 ≤ _)⟩)
    dsimp only [Pt.U, Pt.locs, Pt.cells, Pt.slots] at Xx9 hSx9 hgx9 l9 y9 z9 r9 st9 hQ9
    subst l9 y9 z9
    obtain ⟨X9, hS9, hZ9, hown9⟩ := rebS hS0 (Nat.le_trans (Nat.zero_le _) (Nat.le_trans E4.1 E7.1)) Xx9 hSx9 (e7 ▸ hgx9) hZ hown
    obtain ⟨t9, kb9, rfl, Nq9, Kq9, So9, Sh9, Sz9⟩ := hQ9
    have c10 : SS p e below S0 (T9.setTop (mkF m 14 #[vi p0, vi p1, vi p2] [(.ref b4)])) := c8.trans (st9)
    have N9 := Fr.app N0 Nq9
    have z9 : n0 ≤ T9.heap.size := Nat.le_trans z7 Kq9.1
    have K9 := K7.trans Kq9 (allS (Or.inr (Nat.le_trans K0.1 (Nat.le_of_eq g4.symm))) all0)
    have R9 := R7.trans r9
    have lt_t9 := So9.2.2.2.1.lt
    obtain ⟨fs, hr, hrun, hended, hW⟩ := X9.leaveW hS9 (Nat.le_refl _) (v := some (.ref b4)) (fun h => by rw [Bd.returns] at h; cases h)
    refine ⟨_, _, c10.trans (retOut X9 hx Bd.returns rfl (Or.inr (Or.inr (Or.inr (Or.inr ⟨rfl, rfl, rfl⟩)))) (hb hby D28_14) hr), hrun, hended, _, _, rfl, ?_, ?_, hW.1, hW.2.1, hW.2.2.1, hW.2.2.2.mono (by first | decide | exact Nat.le_of_ble_eq_true rfl) (by first | decide | exact Nat.le_of_ble_eq_true rfl)⟩
    · show QMk Z (own_mk p0 p1 p2) h0 n0 _ T9.heap _
      have So : OStrH Z T9.heap b4 t9 _ ([] : List Int32) := ⟨⟨So9.1, So9.2.1, So9.2.2.1, So9.2.2.2.1, So9.2.2.2.2.1, So9.2.2.2.2.2⟩, Sh9, Sz9, (fun q => absurd q (by decide))⟩
      exact ⟨_, _, _, rfl, N9, K9, (Nat.le_trans K0.1 (Nat.le_of_eq g4.symm)), by rw [own_mk, if_pos hq2]; exact So⟩
    · refine ⟨?_, ?_⟩
      · show CHr Z EL s.vm s.heap T9.vm T9.heap
        rw [hh]; exact R9.trans (CHv.at X9 hZ9 hEL R9.1)
      · show GMk Z _ T9.vm T9.heap
        exact (fun xr hv => by cases hv; exact (CHv.at X9 hZ9 hEL R9.1).safe Sh9.lt (r9.safe (Nat.lt_of_lt_of_le lt_b4 E7.1) (r7.safe lt_b4 sf4)))
  · have c11 : SS p e below S0 (s₁.setTop (mkF m 17 #[vi p0, vi p1, vi p2] [(.int 1), (.int p0)])) := c1.trans (by
      show SS p e below (s₁.setTop (mkF m 1 #[vi p0, vi p1, vi p2] [(.int p0)])) _
      refine XS.ifYes X0.here hx rfl (pc0 := 1) (pc' := 15) rfl (hb hby D28_1) rfl ((if0 _ _).trans (feq hq2).2) (by decide) (by decide) ?_
      refine XS.iloadN X0.here hx rfl (hb hby D28_15) rfl ?_
      refine XS.iconst X0.here hx rfl (hb hby D28_16) ?_
      exact Steps.refl _)
    by_cases hq12 : p0 = (1 : Int32)
    · have c13 : SS p e below S0 (s₁.setTop (mkF m 20 #[vi p0, vi p1, vi p2] [])) := c11.trans (by
        show SS p e below (s₁.setTop (mkF m 17 #[vi p0, vi p1, vi p2] [(.int 1), (.int p0)])) _
        refine XS.icmpNo X0.here hx rfl (hb hby D28_17) rfl (teq hq12).2 ?_
        exact Steps.refl _)
      obtain ⟨T14, h14, X14, e14, E14, A14, D14, -, st14⟩ := newO X0 hx hZ hown (ww hw 5 rfl) (ww hw 6 rfl) (ww hw 7 rfl) e0 (g := (mkF m 20 #[vi p0, vi p1, vi p2] [])) rfl (hb hby D28_20) (by decide) (by decide)
      obtain ⟨b14, g14⟩ : ∃ z, z = h0.size := ⟨_, rfl⟩
      rw [← g14] at A14 D14 st14
      have sn14 : Safe Z EL s.vm h0 b14 := Safe.new (Nat.le_of_eq g14.symm)
      have c15 : SS p e below S0 (T14.setTop (mkF m 23 #[vi p0, vi p1, vi p2] [(.ref b14)])) := c13.trans (st14 _ (Steps.refl _))
      have z14 : n0 ≤ h14.size := Nat.le_trans Z0 E14.1
      have K14 := K0.ext E14
      have r14 : CHr Z EL s.vm h0 s.vm h14 := CHr.ext E14 R0.1
      have R14 := R0.trans r14
      have lt_b14 : b14 < h14.size := A14.lt
      have sf14 : Safe Z EL s.vm h14 b14 := Safe.ext E14 R0.1 sn14
      have F14_value : Fld Z h14 b14 "java/lang/String" "value" "[B" .null := D14 (Or.inr (ww hw 21 rfl)) (ty := (.array .byte)) (by decide)
      have F14_coder : Fld Z h14 b14 "java/lang/String" "coder" "B" (.int 0) := D14 (Or.inr (ww hw 22 rfl)) (ty := .byte) (by decide)
      have F14_hash : Fld Z h14 b14 "java/lang/String" "hash" "I" (.int 0) := D14 (Or.inl (ww hw 51 rfl)) (ty := .int) (by decide)
      have F14_hashIsZero : Fld Z h14 b14 "java/lang/String" "hashIsZero" "Z" (.int 0) := D14 (Or.inl (ww hw 53 rfl)) (ty := .boolean) (by decide)
      have c16 : SS p e below S0 (T14.setTop (mkF m 25 #[vi p0, vi p1, vi p2] [(.int 1), (.ref b14), (.ref b14)])) := c15.trans (by
        show SS p e below (T14.setTop (mkF m 23 #[vi p0, vi p1, vi p2] [(.ref b14)])) _
        refine XS.dup X14.here hx rfl (hb hby D28_23) rfl rfl ?_
        refine XS.iconst X14.here hx rfl (hb hby D28_24) ?_
        exact Steps.refl _)
      obtain ⟨T17, h17, k17, X17, e17, E17, A17, st17⟩ := newP X14 hx hZ (ww hw 8 rfl) e14 (g := (mkF m 25 #[vi p0, vi p1, vi p2] [(.int 1), (.ref b14), (.ref b14)])) rfl (hb hby D28_25) rfl (by decide) (cap := 1) (by decide) (by decide) (by decide) (by decide)
      obtain ⟨b17, g17⟩ : ∃ z, z = h14.size := ⟨_, rfl⟩
      rw [← g17] at A17 st17
      have c18 : SS p e below S0 (T17.setTop (mkF m 27 #[vi p0, vi p1, vi p2] [(.ref b17), (.ref b14), (.ref b14)])) := c16.trans (st17 _ (Steps.refl _))
      have z17 : n0 ≤ h17.size := Nat.le_trans z14 E17.1
      have K17 := K14.ext E17
      have r17 : CHr Z EL s.vm h14 s.vm h17 := CHr.ext E17 R14.1
      have R17 := R14.trans r17
      have V17 : Arv Z h17 b17 k17 .char (1 : Int32) [(.int 0)] (.int 0) := (Arv.new A17 (by decide)).pad (pad_rep [] (.int 0) 1)
      have lt_b17 : b17 < h17.size := V17.lt
      have c19 : SS p e below S0 (T17.setTop (mkF m 30 #[vi p0, vi p1, vi p2] [(.int p1), (.int 0), (.ref b17), (.ref b17), (.ref b14), (.ref b14)])) := c18.trans (by
        show SS p e below (T17.setTop (mkF m 27 #[vi p0, vi p1, vi p2] [(.ref b17), (.ref b14), (.ref b14)])) _
        refine XS.dup X17.here hx rfl (hb hby D28_27) rfl rfl ?_
        refine XS.iconst X17.here hx rfl (hb hby D28_28) ?_
        refine XS.iloadN X17.here hx rfl (hb hby D28_29) rfl ?_
        exact Steps.refl _)
      obtain ⟨cl20, Ar20, q20, S20, Nn20, Ha20, G20⟩ := id V17
      obtain ⟨T20, h20, X20, e20, W20, st20⟩ := stC X17 hx hZ e17 Ar20 (j := (0 : Int32)) (inb_of S20 ⟨by decide, by decide⟩) (g := (mkF m 30 #[vi p0, vi p1, vi p2] [(.int p1), (.int 0), (.ref b17), (.ref b17), (.ref b14), (.ref b14)])) rfl rfl (hb hby D28_30)
      have V20 : Arv Z h20 b17 k17 .char (1 : Int32) [(.int (nar .char p1))] (.int 0) := Arv.set Ar20 q20 S20 Nn20 Ha20 G20 (fits_nar_char _) W20 0 rfl (Nat.le_of_ble_eq_true rfl)
      have c21 : SS p e below S0 (T20.setTop (mkF m 31 #[vi p0, vi p1, vi p2] [(.ref b17), (.ref b14), (.ref b14)])) := c19.trans (st20 _ (Steps.refl _))
      have N20 := Fr.snoc X20 N0 (Nat.le_trans Z0 (Nat.le_trans K14.1 (Nat.le_of_eq g17.symm)))
      have z20 : n0 ≤ h20.size := Nat.le_trans z17 (Keep.of_wr W20).1
      have K20 := K17.wr W20 (Or.inr (Nat.le_trans K14.1 (Nat.le_of_eq g17.symm)))
      have r20 : CHr Z EL s.vm h17 s.vm h20 := CHr.wr W20 (Safe.arv hZ.alike V17 (by decide)) R17.1
      have R20 := R17.trans r20
      have hp22 : ∀ c ∈ ([(nar .char p1)] : List Int32), ¬ c < 0 ∧ ¬ (255 : Int32) < c := (own_alS (own_c8n h8p1) own_al0)
      have hws22 : ∀ d ∈ StrChars.Road.words, d.before a0 Z = true := fun d hd => hw d (own_in_words d hd)
      obtain ⟨_, _, ⟨T23, L23, kk23, nn23⟩, -, X23, ⟨Lc23, hQ23, l23, y23, z23⟩, st23⟩ := X20.specialBack hx (y := (⟨"java/lang/String", "<init>", "([C)V"⟩ : MethodName)) rfl hown (mvT hZ (ww hw 9 rfl)) (mvT hZ (ww hw 10 rfl)) (mvT hZ (ww hw 11 rfl)) (by decide) (StrChars.Road.backArv (W := 1) hZ hws22 (kI := 4) (ww hw 6 rfl) (cs := ([(nar .char p1)] : List Int32)) ((A14.ext E17).wr W20) ((F14_value.ext E17).other W20 (Or.inl (Nat.ne_of_lt (Nat.lt_of_lt_of_le lt_b14 (Nat.le_of_eq g17.symm))))) ((F14_coder.ext E17).other W20 (Or.inl (Nat.ne_of_lt (Nat.lt_of_lt_of_le lt_b14 (Nat.le_of_eq g17.symm))))) V20 (O2.ext (((X00.ext E14).ext E17).wr W20 (Nat.le_trans Z0 (Nat.le_trans K14.1 (Nat.le_of_eq g17.symm)))).2) P5 rfl (by show 0 < 1; decide) (by show 1 ≤ _; decide) (fun c hc => (hp22 c hc).2) (by decide) (by decide)) (g := (mkF m 31 #[vi p0, vi p1, vi p2] [(.ref b17), (.ref b14), (.ref b14)])) rfl (by rw [hml]; rfl) (Steps.refl _) (a := b14) (argsL := [(.ref b17)]) (rest := [(.ref b14)]) (lenOf pd_oaCcV rfl) rfl (by show 2 * 0 + _ ≤ _; exact Nat.le_of_eq rfl) (hb hby D28_31) (fun _ _ => ⟨rfl, e20, (by decide : 2 + 1 ≤ _), (by decide : 5 + 1 ≤ _)⟩)
      dsimp only [Pt.U, Pt.locs, Pt.cells, Pt.slots] at X23 l23 y23 z23 st23 hQ23
      subst l23 y23 z23
      obtain ⟨rfl, Lb23, Kq23, hsz23, Ex23, Fv23, Fc23, ⟨kb23, fk23, Va23⟩, hre23⟩ := hQ23
      have c24 : SS p e below S0 (T23.setTop (mkF m 34 #[vi p0, vi p1, vi p2] [(.ref b14)])) := c21.trans (st23)
      have N23 := Fr.app N20 (fun y hy => Lb23 y hy ▸ (Nat.le_trans Z0 (Nat.le_trans K0.1 (Nat.le_of_eq g14.symm))) : Fr n0 _)
      obtain ⟨t23, gt23⟩ : ∃ z, z = h20.size := ⟨_, rfl⟩
      rw [← gt23] at Fv23 Va23
      have z23 : n0 ≤ T23.heap.size := Nat.le_trans z20 Kq23.1
      have K23 := K20.trans Kq23 (allS (Or.inr (Nat.le_trans K0.1 (Nat.le_of_eq g14.symm))) all0)
      have r23 : CHr Z EL s.vm h20 s.vm T23.heap := CHr.keep Kq23 (sfS (r20.safe (Nat.lt_of_lt_of_le lt_b14 E17.1) (r17.safe lt_b14 sf14)) sf0) R20.1
      have R23 := R20.trans r23
      have lt_t23 : t23 < T23.heap.size := Va23.lt
      have Fh23_hash := hre23 _ _ _ _ ((F14_hash.ext E17).other W20 (Or.inl (Nat.ne_of_lt (Nat.lt_of_lt_of_le lt_b14 (Nat.le_of_eq g17.symm))))) (slot_ne (Or.inl (ww hw 51 rfl)) (Or.inr (ww hw 21 rfl)) (by decide) (t := .int) (t' := (.array .byte)) (by decide) (by decide)) (slot_ne (Or.inl (ww hw 51 rfl)) (Or.inr (ww hw 22 rfl)) (by decide) (t := .int) (t' := .byte) (by decide) (by decide))
      have Fh23_hashIsZero := hre23 _ _ _ _ ((F14_hashIsZero.ext E17).other W20 (Or.inl (Nat.ne_of_lt (Nat.lt_of_lt_of_le lt_b14 (Nat.le_of_eq g17.symm))))) (slot_ne (Or.inl (ww hw 53 rfl)) (Or.inr (ww hw 21 rfl)) (by decide) (t := .boolean) (t' := (.array .byte)) (by decide) (by decide)) (slot_ne (Or.inl (ww hw 53 rfl)) (Or.inr (ww hw 22 rfl)) (by decide) (t := .boolean) (t' := .byte) (by decide) (by decide))
      obtain ⟨fs, hr, hrun, hended, hW⟩ := X23.leaveW hS0 (Nat.le_trans (Nat.zero_le _) (Nat.le_trans (Nat.le_trans (Nat.le_trans E14.1 E17.1) (Keep.of_wr W20).1) Kq23.1)) (v := some (.ref b14)) (fun h => by rw [Bd.returns] at h; cases h)
      refine ⟨_, _, c24.trans (retOut X23 hx Bd.returns rfl (Or.inr (Or.inr (Or.inr (Or.inr ⟨rfl, rfl, rfl⟩)))) (hb hby D28_34) hr), hrun, hended, _, _, rfl, ?_, ?_, hW.1, hW.2.1, hW.2.2.1, hW.2.2.2.mono (by first | decide | exact Nat.le_of_ble_eq_true rfl) (by first | decide | exact Nat.le_of_ble_eq_true rfl)⟩
      · show QMk Z (own_mk p0 p1 p2) h0 n0 _ T23.heap _
        have So : OStrH Z T23.heap b14 t23 _ ([(nar .char p1)] : List Int32) := ⟨⟨Ex23, Fv23, Fc23, Va23, hp22, Nat.le_of_ble_eq_true rfl⟩, Fh23_hash, Fh23_hashIsZero, (fun _ => fk23)⟩
        rw [own_nar h8p1] at So
        exact ⟨_, _, _, rfl, N23, K23, (Nat.le_trans K0.1 (Nat.le_of_eq g14.symm)), by rw [own_mk, if_neg hq2, if_pos hq12]; exact So⟩
      · refine ⟨?_, ?_⟩
        · show CHr Z EL s.vm s.heap T23.vm T23.heap
          rw [hh]; exact R23.trans (CHv.at X23 hZ hEL R23.1)
        · show GMk Z _ T23.vm T23.heap
          exact (fun xr hv => by cases hv; exact (CHv.at X23 hZ hEL R23.1).safe Ex23.lt (r23.safe (Nat.lt_of_lt_of_le lt_b14 (Nat.le_trans E17.1 (Keep.of_wr W20).1)) (r20.safe (Nat.lt_of_lt_of_le lt_b14 E17.1) (r17.safe lt_b14 sf14))))
    · have c25 : SS p e below S0 (s₁.setTop (mkF m 35 #[vi p0, vi p1, vi p2] [])) := c11.trans (by
        show SS p e below (s₁.setTop (mkF m 17 #[vi p0, vi p1, vi p2] [(.int 1), (.int p0)])) _
        refine XS.icmpYes X0.here hx rfl (pc0 := 17) (pc' := 35) rfl (hb hby D28_17) rfl (feq hq12).2 (by decide) (by decide) ?_
        exact Steps.refl _)
      obtain ⟨T26, h26, X26, e26, E26, A26, D26, -, st26⟩ := newO X0 hx hZ hown (ww hw 5 rfl) (ww hw 6 rfl) (ww hw 7 rfl) e0 (g := (mkF m 35 #[vi p0, vi p1, vi p2] [])) rfl (hb hby D28_35) (by decide) (by decide)
      obtain ⟨b26, g26⟩ : ∃ z, z = h0.size := ⟨_, rfl⟩
      rw [← g26] at A26 D26 st26
      have sn26 : Safe Z EL s.vm h0 b26 := Safe.new (Nat.le_of_eq g26.symm)
      have c27 : SS p e below S0 (T26.setTop (mkF m 38 #[vi p0, vi p1, vi p2] [(.ref b26)])) := c25.trans (st26 _ (Steps.refl _))
      have z26 : n0 ≤ h26.size := Nat.le_trans Z0 E26.1
      have K26 := K0.ext E26
      have r26 : CHr Z EL s.vm h0 s.vm h26 := CHr.ext E26 R0.1
      have R26 := R0.trans r26
      have lt_b26 : b26 < h26.size := A26.lt
      have sf26 : Safe Z EL s.vm h26 b26 := Safe.ext E26 R0.1 sn26
      have F26_value : Fld Z h26 b26 "java/lang/String" "value" "[B" .null := D26 (Or.inr (ww hw 21 rfl)) (ty := (.array .byte)) (by decide)
      have F26_coder : Fld Z h26 b26 "java/lang/String" "coder" "B" (.int 0) := D26 (Or.inr (ww hw 22 rfl)) (ty := .byte) (by decide)
      have F26_hash : Fld Z h26 b26 "java/lang/String" "hash" "I" (.int 0) := D26 (Or.inl (ww hw 51 rfl)) (ty := .int) (by decide)
      have F26_hashIsZero : Fld Z h26 b26 "java/lang/String" "hashIsZero" "Z" (.int 0) := D26 (Or.inl (ww hw 53 rfl)) (ty := .boolean) (by decide)
      have c28 : SS p e below S0 (T26.setTop (mkF m 40 #[vi p0, vi p1, vi p2] [(.int 2), (.ref b26), (.ref b26)])) := c27.trans (by
        show SS p e below (T26.setTop (mkF m 38 #[vi p0, vi p1, vi p2] [(.ref b26)])) _
        refine XS.dup X26.here hx rfl (hb hby D28_38) rfl rfl ?_
        refine XS.iconst X26.here hx rfl (hb hby D28_39) ?_
        exact Steps.refl _)
      obtain ⟨T29, h29, k29, X29, e29, E29, A29, st29⟩ := newP X26 hx hZ (ww hw 8 rfl) e26 (g := (mkF m 40 #[vi p0, vi p1, vi p2] [(.int 2), (.ref b26), (.ref b26)])) rfl (hb hby D28_40) rfl (by decide) (cap := 2) (by decide) (by decide) (by decide) (by decide)
      obtain ⟨b29, g29⟩ : ∃ z, z = h26.size := ⟨_, rfl⟩
      rw [← g29] at A29 st29
      have c30 : SS p e below S0 (T29.setTop (mkF m 42 #[vi p0, vi p1, vi p2] [(.ref b29), (.ref b26), (.ref b26)])) := c28.trans (st29 _ (Steps.refl _))
      have z29 : n0 ≤ h29.size := Nat.le_trans z26 E29.1
      have K29 := K26.ext E29
      have r29 : CHr Z EL s.vm h26 s.vm h29 := CHr.ext E29 R26.1
      have R29 := R26.trans r29
      have V29 : Arv Z h29 b29 k29 .char (2 : Int32) [(.int 0), (.int 0)] (.int 0) := (Arv.new A29 (by decide)).pad (pad_rep [] (.int 0) 2)
      have lt_b29 : b29 < h29.size := V29.lt
      have c31 : SS p e below S0 (T29.setTop (mkF m 45 #[vi p0, vi p1, vi p2] [(.int p1), (.int 0), (.ref b29), (.ref b29), (.ref b26), (.ref b26)])) := c30.trans (by
        show SS p e below (T29.setTop (mkF m 42 #[vi p0, vi p1, vi p2] [(.ref b29), (.ref b26), (.ref b26)])) _
        refine XS.dup X29.here hx rfl (hb hby D28_42) rfl rfl ?_
        refine XS.iconst X29.here hx rfl (hb hby D28_43) ?_
        refine XS.iloadN X29.here hx rfl (hb hby D28_44) rfl ?_
        exact Steps.refl _)
      obtain ⟨cl32, Ar32, q32, S32, Nn32, Ha32, G32⟩ := id V29
      obtain ⟨T32, h32, X32, e32, W32, st32⟩ := stC X29 hx hZ e29 Ar32 (j := (0 : Int32)) (inb_of S32 ⟨by decide, by decide⟩) (g := (mkF m 45 #[vi p0, vi p1, vi p2] [(.int p1), (.int 0), (.ref b29), (.ref b29), (.ref b26), (.ref b26)])) rfl rfl (hb hby D28_45)
      have V32 : Arv Z h32 b29 k29 .char (2 : Int32) [(.int (nar .char p1)), (.int 0)] (.int 0) := Arv.set Ar32 q32 S32 Nn32 Ha32 G32 (fits_nar_char _) W32 0 rfl (Nat.le_of_ble_eq_true rfl)
      have c33 : SS p e below S0 (T32.setTop (mkF m 46 #[vi p0, vi p1, vi p2] [(.ref b29), (.ref b26), (.ref b26)])) := c31.trans (st32 _ (Steps.refl _))
      have N32 := Fr.snoc X32 N0 (Nat.le_trans Z0 (Nat.le_trans K26.1 (Nat.le_of_eq g29.symm)))
      have z32 : n0 ≤ h32.size := Nat.le_trans z29 (Keep.of_wr W32).1
      have K32 := K29.wr W32 (Or.inr (Nat.le_trans K26.1 (Nat.le_of_eq g29.symm)))
      have r32 : CHr Z EL s.vm h29 s.vm h32 := CHr.wr W32 (Safe.arv hZ.alike V29 (by decide)) R29.1
      have R32 := R29.trans r32
      have c34 : SS p e below S0 (T32.setTop (mkF m 49 #[vi p0, vi p1, vi p2] [(.int p2), (.int 1), (.ref b29), (.ref b29), (.ref b26), (.ref b26)])) := c33.trans (by
        show SS p e below (T32.setTop (mkF m 46 #[vi p0, vi p1, vi p2] [(.ref b29), (.ref b26), (.ref b26)])) _
        refine XS.dup X32.here hx rfl (hb hby D28_46) rfl rfl ?_
        refine XS.iconst X32.here hx rfl (hb hby D28_47) ?_
        refine XS.iloadN X32.here hx rfl (hb hby D28_48) rfl ?_
        exact Steps.refl _)
      obtain ⟨cl35, Ar35, q35, S35, Nn35, Ha35, G35⟩ := id V32
      obtain ⟨T35, h35, X35, e35, W35, st35⟩ := stC X32 hx hZ e32 Ar35 (j := (1 : Int32)) (inb_of S35 ⟨by decide, by decide⟩) (g := (mkF m 49 #[vi p0, vi p1, vi p2] [(.int p2), (.int 1), (.ref b29), (.ref b29), (.ref b26), (.ref b26)])) rfl rfl (hb hby D28_49)
      have V35 : Arv Z h35 b29 k29 .char (2 : Int32) [(.int (nar .char p1)), (.int (nar .char p2))] (.int 0) := Arv.set Ar35 q35 S35 Nn35 Ha35 G35 (fits_nar_char _) W35 1 rfl (Nat.le_of_ble_eq_true rfl)
      have c36 : SS p e below S0 (T35.setTop (mkF m 50 #[vi p0, vi p1, vi p2] [(.ref b29), (.ref b26), (.ref b26)])) := c34.trans (st35 _ (Steps.refl _))
      have N35 := Fr.snoc X35 N32 (Nat.le_trans Z0 (Nat.le_trans K26.1 (Nat.le_of_eq g29.symm)))
      have z35 : n0 ≤ h35.size := Nat.le_trans z32 (Keep.of_wr W35).1
      have K35 := K32.wr W35 (Or.inr (Nat.le_trans K26.1 (Nat.le_of_eq g29.symm)))
      have r35 : CHr Z EL s.vm h32 s.vm h35 := CHr.wr W35 (Safe.arv hZ.alike V32 (by decide)) R32.1
      have R35 := R32.trans r35
      have hp37 : ∀ c ∈ ([(nar .char p1), (nar .char p2)] : List Int32), ¬ c < 0 ∧ ¬ (255 : Int32) < c := (own_alS (own_c8n h8p1) (own_alS (own_c8n h8p2) own_al0))
      have hws37 : ∀ d ∈ StrChars.Road.words, d.before a0 Z = true := fun d hd => hw d (own_in_words d hd)
      obtain ⟨_, _, ⟨T38, L38, kk38, nn38⟩, -, X38, ⟨Lc38, hQ38, l38, y38, z38⟩, st38⟩ := X35.specialBack hx (y := (⟨"java/lang/String", "<init>", "([C)V"⟩ : MethodName)) rfl hown (mvT hZ (ww hw 9 rfl)) (mvT hZ (ww hw 10 rfl)) (mvT hZ (ww hw 11 rfl)) (by decide) (StrChars.Road.backArv (W := 1) hZ hws37 (kI := 4) (ww hw 6 rfl) (cs := ([(nar .char p1), (nar .char p2)] : List Int32)) (((A26.ext E29).wr W32).wr W35) (((F26_value.ext E29).other W32 (Or.inl (Nat.ne_of_lt (Nat.lt_of_lt_of_le lt_b26 (Nat.le_of_eq g29.symm))))).other W35 (Or.inl (Nat.ne_of_lt (Nat.lt_of_lt_of_le lt_b26 (Nat.le_of_eq g29.symm))))) (((F26_coder.ext E29).other W32 (Or.inl (Nat.ne_of_lt (Nat.lt_of_lt_of_le lt_b26 (Nat.le_of_eq g29.symm))))).other W35 (Or.inl (Nat.ne_of_lt (Nat.lt_of_lt_of_le lt_b26 (Nat.le_of_eq g29.symm))))) V35 (O2.ext ((((X00.ext E26).ext E29).wr W32 (Nat.le_trans Z0 (Nat.le_trans K26.1 (Nat.le_of_eq g29.symm)))).wr W35 (Nat.le_trans Z0 (Nat.le_trans K26.1 (Nat.le_of_eq g29.symm)))).2) P5 rfl (by show 0 < 2; decide) (by show 2 ≤ _; decide) (fun c hc => (hp37 c hc).2) (by decide) (by decide)) (g := (mkF m 50 #[vi p0, vi p1, vi p2] [(.ref b29), (.ref b26), (.ref b26)])) rfl (by rw [hml]; rfl) (Steps.refl _) (a := b26) (argsL := [(.ref b29)]) (rest := [(.ref b26)]) (lenOf pd_oaCcV rfl) rfl (by show 2 * 0 + _ ≤ _; exact Nat.le_of_eq rfl) (hb hby D28_50) (fun _ _ => ⟨rfl, e35, (by decide : 2 + 1 ≤ _), (by decide : 6 + 2 ≤ _)⟩)
      dsimp only [Pt.U, Pt.locs, Pt.cells, Pt.slots] at X38 l38 y38 z38 st38 hQ38
      subst l38 y38 z38
      obtain ⟨rfl, Lb38, Kq38, hsz38, Ex38, Fv38, Fc38, ⟨kb38, fk38, Va38⟩, hre38⟩ := hQ38
      have c39 : SS p e below S0 (T38.setTop (mkF m 53 #[vi p0, vi p1, vi p2] [(.ref b26)])) := c36.trans (st38)
      have N38 := Fr.app N35 (fun y hy => Lb38 y hy ▸ (Nat.le_trans Z0 (Nat.le_trans K0.1 (Nat.le_of_eq g26.symm))) : Fr n0 _)
      obtain ⟨t38, gt38⟩ : ∃ z, z = h35.size := ⟨_, rfl⟩
      rw [← gt38] at Fv38 Va38
      have z38 : n0 ≤ T38.heap.size := Nat.le_trans z35 Kq38.1
      have K38 := K35.trans Kq38 (allS (Or.inr (Nat.le_trans K0.1 (Nat.le_of_eq g26.symm))) all0)
      have r38 : CHr Z EL s.vm h35 s.vm T38.heap := CHr.keep Kq38 (sfS (r35.safe (Nat.lt_of_lt_of_le lt_b26 (Nat.le_trans E29.1 (Keep.of_wr W32).1)) (r32.safe (Nat.lt_of_lt_of_le lt_b26 E29.1) (r29.safe lt_b26 sf26))) sf0) R35.1
      have R38 := R35.trans r38
      have lt_t38 : t38 < T38.heap.size := Va38.lt
      have Fh38_hash := hre38 _ _ _ _ (((F26_hash.ext E29).other W32 (Or.inl (Nat.ne_of_lt (Nat.lt_of_lt_of_le lt_b26 (Nat.le_of_eq g29.symm))))).other W35 (Or.inl (Nat.ne_of_lt (Nat.lt_of_lt_of_le lt_b26 (Nat.le_of_eq g29.symm))))) (slot_ne (Or.inl (ww hw 51 rfl)) (Or.inr (ww hw 21 rfl)) (by decide) (t := .int) (t' := (.array .byte)) (by decide) (by decide)) (slot_ne (Or.inl (ww hw 51 rfl)) (Or.inr (ww hw 22 rfl)) (by decide) (t := .int) (t' := .byte) (by decide) (by decide))
      have Fh38_hashIsZero := hre38 _ _ _ _ (((F26_hashIsZero.ext E29).other W32 (Or.inl (Nat.ne_of_lt (Nat.lt_of_lt_of_le lt_b26 (Nat.le_of_eq g29.symm))))).other W35 (Or.inl (Nat.ne_of_lt (Nat.lt_of_lt_of_le lt_b26 (Nat.le_of_eq g29.symm))))) (slot_ne (Or.inl (ww hw 53 rfl)) (Or.inr (ww hw 21 rfl)) (by decide) (t := .boolean) (t' := (.array .byte)) (by decide) (by decide)) (slot_ne (Or.inl (ww hw 53 rfl)) (Or.inr (ww hw 22 rfl)) (by decide) (t := .boolean) (t' := .byte) (by decide) (by decide))
      obtain ⟨fs, hr, hrun, hended, hW⟩ := X38.leaveW hS0 (Nat.le_trans (Nat.zero_le _) (Nat.le_trans (Nat.le_trans (Nat.le_trans (Nat.le_trans E26.1 E29.1) (Keep.of_wr W32).1) (Keep.of_wr W35).1) Kq38.1)) (v := some (.ref b26)) (fun h => by rw [Bd.returns] at h; cases h)
      refine ⟨_, _, c39.trans (retOut X38 hx Bd.returns rfl (Or.inr (Or.inr (Or.inr (Or.inr ⟨rfl, rfl, rfl⟩)))) (hb hby D28_53) hr), hrun, hended, _, _, rfl, ?_, ?_, hW.1, hW.2.1, hW.2.2.1, hW.2.2.2.mono (by first | decide | exact Nat.le_of_ble_eq_true rfl) (by first | decide | exact Nat.le_of_ble_eq_true rfl)⟩
      · show QMk Z (own_mk p0 p1 p2) h0 n0 _ T38.heap _
        have So : OStrH Z T38.heap b26 t38 _ ([(nar .char p1), (nar .char p2)] : List Int32) := ⟨⟨Ex38, Fv38, Fc38, Va38, hp37, Nat.le_of_ble_eq_true rfl⟩, Fh38_hash, Fh38_hashIsZero, (fun _ => fk38)⟩
        rw [own_nar h8p1, own_nar h8p2] at So
        exact ⟨_, _, _, rfl, N38, K38, (Nat.le_trans K0.1 (Nat.le_of_eq g26.symm)), by rw [own_mk, if_neg hq2, if_neg hq12]; exact So⟩
      · refine ⟨?_, ?_⟩
        · show CHr Z EL s.vm s.heap T38.vm T38.heap
          rw [hh]; exact R38.trans (CHv.at X38 hZ hEL R38.1)
        · show GMk Z _ T38.vm T38.heap
          exact (fun xr hv => by cases hv; exact (CHv.at X38 hZ hEL R38.1).safe Ex38.lt (r38.safe (Nat.lt_of_lt_of_le lt_b26 (Nat.le_trans (Nat.le_trans E29.1 (Keep.of_wr W32).1) (Keep.of_wr W35).1)) (r35.safe (Nat.lt_of_lt_of_le lt_b26 (Nat.le_trans E29.1 (Keep.of_wr W32).1)) (r32.safe (Nat.lt_of_lt_of_le lt_b26 E29.1) (r29.safe lt_b26 sf26)))))

def QRt (Z : State) (x sx tx mx ux : Addr) (kx km : ClassId) (cs ds : List Int32) (h0 : Heap) (n0 : Nat) (v : Option Value) (h : Heap) (L : List Loc) : Prop := v = none ∧ Fr n0 L ∧ Keep h0 h [x, sx, mx] ∧ Exa Z h x "com/example/evenkeel/evenkeel/Route" ∧ Fld Z h x "com/example/evenkeel/evenkeel/Route" "service" "Ljava/lang/String;" (.ref sx) ∧ Fld Z h x "com/example/evenkeel/evenkeel/Route" "method" "Ljava/lang/String;" (.ref mx) ∧ OStr Z h sx tx kx cs ∧ OStr Z h mx ux km ds

theorem D29_0 : decode prog_27_method_1_code 0 = .ok (.aload_n 0, 1) := by decide +kernel
theorem D29_1 : decode prog_27_method_1_code 1 = .ok (.invokespecial 1, 3) := by decide +kernel
theorem D29_4 : decode prog_27_method_1_code 4 = .ok (.aload_n 0, 1) := by decide +kernel
theorem D29_5 : decode prog_27_method_1_code 5 = .ok (.aload_n 1, 1) := by decide +kernel
theorem D29_6 : decode prog_27_method_1_code 6 = .ok (.ldc 7, 2) := by decide +kernel
theorem pd_oLjavaslangsObjecteLjavaslangsStringecLjavaslangsObjecte : parseMethodDescriptor "(Ljava/lang/Object;Ljava/lang/String;)Ljava/lang/Object;" = some ⟨[(.object "java/lang/Object"), (.object "java/lang/String")], some (.object "java/lang/Object")⟩ := by decide +kernel
theorem D29_8 : decode prog_27_method_1_code 8 = .ok (.invokestatic 9, 3) := by decide +kernel
theorem D29_11 : decode prog_27_method_1_code 11 = .ok (.checkcast 15, 3) := by decide +kernel
theorem D29_14 : decode prog_27_method_1_code 14 = .ok (.putfield 17, 3) := by decide +kernel
theorem D29_17 : decode prog_27_method_1_code 17 = .ok (.aload_n 0, 1) := by decide +kernel
theorem D29_18 : decode prog_27_method_1_code 18 = .ok (.aload_n 2, 1) := by decide +kernel
theorem D29_19 : decode prog_27_method_1_code 19 = .ok (.ldc 22, 2) := by decide +kernel
theorem D29_21 : decode prog_27_method_1_code 21 = .ok (.invokestatic 9, 3) := by decide +kernel
theorem D29_24 : decode prog_27_method_1_code 24 = .ok (.checkcast 15, 3) := by decide +kernel
theorem D29_27 : decode prog_27_method_1_code 27 = .ok (.putfield 24, 3) := by decide +kernel
theorem D29_30 : decode prog_27_method_1_code 30 = .ok (.aload_n 0, 1) := by decide +kernel
theorem D29_31 : decode prog_27_method_1_code 31 = .ok (.bipush 31, 2) := by decide +kernel
theorem D29_33 : decode prog_27_method_1_code 33 = .ok (.aload_n 1, 1) := by decide +kernel
theorem D29_34 : decode prog_27_method_1_code 34 = .ok (.invokevirtual 26, 3) := by decide +kernel
theorem D29_37 : decode prog_27_method_1_code 37 = .ok (.imul, 1) := by decide +kernel
theorem D29_38 : decode prog_27_method_1_code 38 = .ok (.aload_n 2, 1) := by decide +kernel
theorem D29_39 : decode prog_27_method_1_code 39 = .ok (.invokevirtual 26, 3) := by decide +kernel
theorem D29_42 : decode prog_27_method_1_code 42 = .ok (.iadd, 1) := by decide +kernel
theorem D29_43 : decode prog_27_method_1_code 43 = .ok (.putfield 30, 3) := by decide +kernel
theorem D29_46 : decode prog_27_method_1_code 46 = .ok (.return_, 1) := by decide +kernel
theorem pn_com_example_evenkeel_evenkeel_Route : plainName "com/example/evenkeel/evenkeel/Route" = true := by first | (simp [plainName, overriddenIn]; done) | decide +kernel
theorem ef_rmRt (m : MethodId) (x0 : Addr) (x1 : Addr) (x2 : Addr) : entryFrame m #[(.ref x0), (.ref x1), (.ref x2)] 3 = mkF m 0 #[.val (.ref x0), .val (.ref x1), .val (.ref x2)] [] := by first | (simp [entryFrame, mkF, argsToLocals, Value.category]; done) | rfl
set_option maxRecDepth 65536 in
set_option maxHeartbeats 40000000 in
theorem rmRt (l : Launch) (Z : State) (a0 : Array Value) (hw : ∀ d ∈ tables_1, d.before a0 Z = true) (ws : List Jvm.Cond) (x sx tx mx ux : Addr) (kx km : ClassId) (cs ds : List Int32) (G1 : Int32) (h0 : Heap) (n0 : Nat) (Z0 : n0 ≤ h0.size) (g_x : n0 ≤ x) (g_sx : n0 ≤ sx) (g_mx : n0 ≤ mx) (Ex : Exa Z h0 x "com/example/evenkeel/evenkeel/Route") (F0 : Fld Z h0 x "com/example/evenkeel/evenkeel/Route" "service" "Ljava/lang/String;" .null) (F1 : Fld Z h0 x "com/example/evenkeel/evenkeel/Route" "method" "Ljava/lang/String;" .null) (F2 : Fld Z h0 x "com/example/evenkeel/evenkeel/Route" "hash" "I" (.int 0)) (Sx : OStrH Z h0 sx tx kx cs) (Sm : OStrH Z h0 mx ux km ds) (hsm : sx ≠ mx) (O2 : Sta Z Z.heap "java/lang/String" "COMPACT_STRINGS" "Z" (.int G1)) (P5 : ¬ G1 = 0) (X00 : Old Z n0 h0) :
    MetFree l (⟨"com/example/evenkeel/evenkeel/Route", "<init>", "(Ljava/lang/String;Ljava/lang/String;)V"⟩ : MethodName) (head1 (Jvm.Cond.code (⟨"com/example/evenkeel/evenkeel/Route", "<init>", "(Ljava/lang/String;Ljava/lang/String;)V"⟩ : MethodName) prog_27_method_1_code 3 (none) :: ws) ({ frames := 4, cells := 4, slots := 60, locals := 60 } : Room)) (fun aa U => aa = #[(.ref x), (.ref sx), (.ref mx)] ∧ Z.Warmed39 U.vm ∧ U.heap = h0 ∧ CHv Z EL U.vm h0 ∧ PRt Z h0 sx mx U.vm) (fun _ _ _ _ _ => True) (fun _ U o U' => ∃ v L, o = .returned v ∧ QRt Z x sx tx mx ux kx km cs ds h0 n0 v U'.heap L ∧ (CHr Z EL U.vm U.heap U'.vm U'.heap ∧ GT Z v U'.vm U'.heap) ∧ ReturnedEndW U o U' L ({ frames := 4, cells := 4, slots := 60, locals := 60 } : Room).cells ({ frames := 4, cells := 4, slots := 60, locals := 60 } : Room).slots) := by
  refine MetFree.of_bodySF (plainFor_of_name pn_com_example_evenkeel_evenkeel_Route) hisR ?_
  intro p e s m args below meth c s₁ Bd hml0 hP hK
  obtain ⟨rfl, hZ, hh, hCH, hPV⟩ := hP
  have hx := Bd.exec
  have hby := Bd.bytes
  have hml : c.maxLocals = 3 := hml0
  have hown : s.vm.findClass "com/example/evenkeel/evenkeel/Route" = some m.cls := findClass_of_methodNamed Bd.named
  have hnm := (name_of_methodNamed Bd.named Bd.method).1
  have X0 : Stand p l e ({ frames := 4, cells := 4, slots := 60, locals := 60 } : Room) s m #[(.ref x), (.ref sx), (.ref mx)] below meth c s₁ [] 0 0 := Stand.of_body Bd
  have e0 : s₁.heap = h0 := by rw [← hh, Bd.state]; rfl
  have N0 := Fr.nil n0
  have K0 := Keep.refl h0 [x, sx, mx]
  obtain ⟨S0, hS0⟩ : ∃ z, z = s₁.setTop (entryFrame m #[(.ref x), (.ref sx), (.ref mx)] 3) := ⟨_, rfl⟩
  rw [← hS0]
  have c0 : SS p e below S0 (s₁.setTop (mkF m 0 #[vr x, vr sx, vr mx] [])) := by
    rw [hS0]; exact castTop (ef_rmRt m x sx mx) (Steps.refl _)
  have X0 : Stand p l e ({ frames := 4, cells := 4, slots := 60, locals := 60 } : Room) (s.setVm s.vm) m #[(.ref x), (.ref sx), (.ref mx)] below meth c s₁ [] 0 0 := X0
  have hS0 : s.Since s.vm 0 := own_since s
  have R0 : CHr Z EL s.vm h0 s.vm h0 := CHr.refl hCH
  have hEL := own_EW hw
  have hwS := own_strw hw
  have c1 : SS p e below S0 (s₁.setTop (mkF m 1 #[vr x, vr sx, vr mx] [(.ref x)])) := c0.trans (by
    show SS p e below (s₁.setTop (mkF m 0 #[vr x, vr sx, vr mx] [])) _
    refine XS.aloadN X0.here hx rfl (hb hby D29_0) rfl rfl ?_
    exact Steps.refl _)
  obtain ⟨T2, X2, e2, st2⟩ := initO X0 hx hZ hown (ww hw 33 rfl) (ww hw 17 rfl) (ww hw 18 rfl) e0 (g := (mkF m 1 #[vr x, vr sx, vr mx] [(.ref x)])) rfl (by rw [hml]; rfl) rfl (hb hby D29_1) (by decide) (W := 0) (by show 2 * 0 + _ ≤ _; exact Nat.le_of_eq rfl) (by decide)
  have c3 : SS p e below S0 (T2.setTop (mkF m 4 #[vr x, vr sx, vr mx] [])) := c1.trans (st2 _ (Steps.refl _))
  have c4 : SS p e below S0 (T2.setTop (mkF m 6 #[vr x, vr sx, vr mx] [(.ref sx), (.ref x)])) := c3.trans (by
    show SS p e below (T2.setTop (mkF m 4 #[vr x, vr sx, vr mx] [])) _
    refine XS.aloadN X2.here hx rfl (hb hby D29_4) rfl rfl ?_
    refine XS.aloadN X2.here hx rfl (hb hby D29_5) rfl rfl ?_
    exact Steps.refl _)
  obtain ⟨a5, T5, h5, k5, X5, e5, E5, hS5, hk5, hZ5, hown5, r5, -, st5⟩ := ldcOH X2 hx hZ hown (ww hw 34 rfl) hwS e2 hS0 (Nat.zero_le _) hEL R0.1 (g := (mkF m 6 #[vr x, vr sx, vr mx] [(.ref sx), (.ref x)])) rfl (hb hby D29_6) (n := 28) (by decide) (by decide) (by decide) (by decide)
  have c6 : SS p e below S0 (T5.setTop (mkF m 8 #[vr x, vr sx, vr mx] [(.ref a5), (.ref sx), (.ref x)])) := c4.trans (st5 _ (Steps.refl _))
  have z5 : n0 ≤ h5.size := Nat.le_trans Z0 E5.1
  have K5 := K0.ext E5
  have R5 := R0.trans r5
  obtain ⟨_, _, ⟨T7, L7, kk7, nn7⟩, -, X7, ⟨Lc7, hQ7, l7, y7, z7⟩, st7⟩ := Jvm.LawKit.callS X5 hx (y := (⟨"java/util/Objects", "requireNonNull", "(Ljava/lang/Object;Ljava/lang/String;)Ljava/lang/Object;"⟩ : MethodName)) hown5 (mvT hZ5 (ww hw 35 rfl)) (mvT hZ5 (ww hw 36 rfl)) (mvT hZ5 (ww hw 37 rfl)) (mvT hZ5 (ww hw 38 rfl)) (by decide) (backOf (W := 1) (rmRnn2 l Z a0 hw [] sx a5 h5 n0 z5 ) hZ5 (ww hw 38 rfl) (ww hw 37 rfl) (by decide) (by decide)) (g := (mkF m 8 #[vr x, vr sx, vr mx] [(.ref a5), (.ref sx), (.ref x)])) rfl (by rw [hml]; rfl) (argsL := [(.ref sx), (.ref a5)]) (rest := [(.ref x)]) (lenOf pd_oLjavaslangsObjecteLjavaslangsStringecLjavaslangsObjecte rfl) rfl (by show 2 * 0 + _ ≤ _; exact Nat.le_of_eq rfl) (hb hby D29_8) (fun _ _ => ⟨rfl, e5, (by decide : 2 + 0 ≤ _), (by decide : 32 + 0 ≤ _)⟩)
  dsimp only [Pt.U, Pt.locs, Pt.cells, Pt.slots] at X7 l7 y7 z7 st7 hQ7
  subst l7 y7 z7
  obtain ⟨rfl, Nq7, eq7⟩ := hQ7
  have c8 : SS p e below S0 (T7.setTop (mkF m 11 #[vr x, vr sx, vr mx] [(.ref sx), (.ref x)])) := c6.trans (st7 _ (Steps.refl _))
  have N7 := Fr.app N0 Nq7
  obtain ⟨T9, X9, e9, st9⟩ := castY X7 hx hZ5 hown5 (ww hw 39 rfl) eq7 (Ins.self (Sx.1.1.ext E5)) (g := (mkF m 11 #[vr x, vr sx, vr mx] [(.ref sx), (.ref x)])) rfl rfl (hb hby D29_11)
  have c10 : SS p e below S0 (T9.setTop (mkF m 14 #[vr x, vr sx, vr mx] [(.ref sx), (.ref x)])) := c8.trans (st9 _ (Steps.refl _))
  obtain ⟨T11, h11, X11, e11, W11, st11⟩ := putF X9 hx hZ5 hown5 (host := "") (Or.inl (ww hw 40 rfl)) Via.refl e9 (F0.ext E5) (Ex.ext E5) (Or.inr ⟨(ww hw 41 rfl), rfl, hnm⟩) (ww hw 28 rfl) (ty := (.object "java/lang/String")) (by decide) rfl rfl (g := (mkF m 14 #[vr x, vr sx, vr mx] [(.ref sx), (.ref x)])) rfl rfl (hb hby D29_14)
  have c12 : SS p e below S0 (T11.setTop (mkF m 17 #[vr x, vr sx, vr mx] [])) := c10.trans (st11 _ (Steps.refl _))
  have N11 := Fr.snoc X11 N7 g_x
  have Fw11 := (F0.ext E5).same W11
  have z11 : n0 ≤ h11.size := Nat.le_trans z5 (Keep.of_wr W11).1
  have K11 := K5.wr W11 (Or.inl (by simp))
  have r11 : CHr Z EL T5.vm h5 T5.vm h11 := CHr.wr W11 (Safe.exa hZ5.alike (Ex.ext E5) (by decide) (by decide)) R5.1
  have R11 := R5.trans r11
  have c13 : SS p e below S0 (T11.setTop (mkF m 19 #[vr x, vr sx, vr mx] [(.ref mx), (.ref x)])) := c12.trans (by
    show SS p e below (T11.setTop (mkF m 17 #[vr x, vr sx, vr mx] [])) _
    refine XS.aloadN X11.here hx rfl (hb hby D29_17) rfl rfl ?_
    refine XS.aloadN X11.here hx rfl (hb hby D29_18) rfl rfl ?_
    exact Steps.refl _)
  obtain ⟨a14, T14, h14, k14, X14, e14, E14, hS14, hk14, hZ14, hown14, r14, -, st14⟩ := ldcOH X11 hx hZ5 hown5 (ww hw 42 rfl) hwS e11 hS5 (Nat.le_trans hk5 (Keep.of_wr W11).1) hEL R11.1 (g := (mkF m 19 #[vr x, vr sx, vr mx] [(.ref mx), (.ref x)])) rfl (hb hby D29_19) (n := 24) (by decide) (by decide) (by decide) (by decide)
  have c15 : SS p e below S0 (T14.setTop (mkF m 21 #[vr x, vr sx, vr mx] [(.ref a14), (.ref mx), (.ref x)])) := c13.trans (st14 _ (Steps.refl _))
  have z14 : n0 ≤ h14.size := Nat.le_trans z11 E14.1
  have K14 := K11.ext E14
  have R14 := R11.trans r14
  obtain ⟨_, _, ⟨T16, L16, kk16, nn16⟩, -, X16, ⟨Lc16, hQ16, l16, y16, z16⟩, st16⟩ := Jvm.LawKit.callS X14 hx (y := (⟨"java/util/Objects", "requireNonNull", "(Ljava/lang/Object;Ljava/lang/String;)Ljava/lang/Object;"⟩ : MethodName)) hown14 (mvT hZ14 (ww hw 35 rfl)) (mvT hZ14 (ww hw 36 rfl)) (mvT hZ14 (ww hw 37 rfl)) (mvT hZ14 (ww hw 38 rfl)) (by decide) (backOf (W := 1) (rmRnn2 l Z a0 hw [] mx a14 h14 n0 z14 ) hZ14 (ww hw 38 rfl) (ww hw 37 rfl) (by decide) (by decide)) (g := (mkF m 21 #[vr x, vr sx, vr mx] [(.ref a14), (.ref mx), (.ref x)])) rfl (by rw [hml]; rfl) (argsL := [(.ref mx), (.ref a14)]) (rest := [(.ref x)]) (lenOf pd_oLjavaslangsObjecteLjavaslangsStringecLjavaslangsObjecte rfl) rfl (by show 2 * 0 + _ ≤ _; exact Nat.le_of_eq rfl) (hb hby D29_21) (fun _ _ => ⟨rfl, e14, (by decide : 4 + 0 ≤ _), (by decide : 60 + 0 ≤ _)⟩)
  dsimp only [Pt.U, Pt.locs, Pt.cells, Pt.slots] at X16 l16 y16 z16 st16 hQ16
  subst l16 y16 z16
  obtain ⟨rfl, Nq16, eq16⟩ := hQ16
  have c17 : SS p e below S0 (T16.setTop (mkF m 24 #[vr x, vr sx, vr mx] [(.ref mx), (.ref x)])) := c15.trans (st16 _ (Steps.refl _))
  have N16 := Fr.app N11 Nq16
  obtain ⟨T18, X18, e18, st18⟩ := castY X16 hx hZ14 hown14 (ww hw 39 rfl) eq16 (Ins.self (((Sm.1.1.ext E5).wr W11).ext E14)) (g := (mkF m 24 #[vr x, vr sx, vr mx] [(.ref mx), (.ref x)])) rfl rfl (hb hby D29_24)
  have c19 : SS p e below S0 (T18.setTop (mkF m 27 #[vr x, vr sx, vr mx] [(.ref mx), (.ref x)])) := c17.trans (st18 _ (Steps.refl _))
  obtain ⟨T20, h20, X20, e20, W20, st20⟩ := putF X18 hx hZ14 hown14 (host := "") (Or.inl (ww hw 43 rfl)) Via.refl e18 (((F1.ext E5).other W11 (Or.inr (slot_ne (Or.inr (ww hw 44 rfl)) (Or.inr (ww hw 41 rfl)) (by decide) (t := (.object "java/lang/String")) (t' := (.object "java/lang/String")) (by decide) (by decide)))).ext E14) (((Ex.ext E5).wr W11).ext E14) (Or.inr ⟨(ww hw 44 rfl), rfl, hnm⟩) (ww hw 28 rfl) (ty := (.object "java/lang/String")) (by decide) rfl rfl (g := (mkF m 27 #[vr x, vr sx, vr mx] [(.ref mx), (.ref x)])) rfl rfl (hb hby D29_27)
  have c21 : SS p e below S0 (T20.setTop (mkF m 30 #[vr x, vr sx, vr mx] [])) := c19.trans (st20 _ (Steps.refl _))
  have N20 := Fr.snoc X20 N16 g_x
  have Fw20 := (((F1.ext E5).other W11 (Or.inr (slot_ne (Or.inr (ww hw 44 rfl)) (Or.inr (ww hw 41 rfl)) (by decide) (t := (.object "java/lang/String")) (t' := (.object "java/lang/String")) (by decide) (by decide)))).ext E14).same W20
  have z20 : n0 ≤ h20.size := Nat.le_trans z14 (Keep.of_wr W20).1
  have K20 := K14.wr W20 (Or.inl (by simp))
  have r20 : CHr Z EL T14.vm h14 T14.vm h20 := CHr.wr W20 (Safe.exa hZ14.alike (((Ex.ext E5).wr W11).ext E14) (by decide) (by decide)) R14.1
  have R20 := R14.trans r20
  have c22 : SS p e below S0 (T20.setTop (mkF m 34 #[vr x, vr sx, vr mx] [(.ref sx), (.int 31), (.ref x)])) := c21.trans (by
    show SS p e below (T20.setTop (mkF m 30 #[vr x, vr sx, vr mx] [])) _
    refine XS.aloadN X20.here hx rfl (hb hby D29_30) rfl rfl ?_
    refine XS.bipush X20.here hx rfl (hb hby D29_31) ?_
    refine XS.aloadN X20.here hx rfl (hb hby D29_33) rfl rfl ?_
    exact Steps.refl _)
  obtain ⟨cq23, kq23, q23a, q23b, q23c⟩ := isOf hZ14 e20 ((((Sx.1.1.ext E5).wr W11).ext E14).wr W20)
  obtain ⟨_, _, ⟨T23, L23, kk23, nn23⟩, -, X23, ⟨Lc23, hQ23, l23, y23, z23⟩, st23⟩ := X20.virtualBack hx (y := (⟨"java/lang/String", "hashCode", "()I"⟩ : MethodName)) (z := (⟨"java/lang/String", "hashCode", "()I"⟩ : MethodName)) hown14 (mvT hZ14 (ww hw 45 rfl)) (mvT hZ14 (ww hw 46 rfl)) (notFace_of_selects (args := #[]) (mvT hZ14 (ww hw 48 rfl))) (mvT hZ14 (ww hw 48 rfl)) (mvT hZ14 (ww hw 47 rfl)) (by decide) (backOf (W := 2) (rmHC l Z a0 hw [] sx tx kx cs G1 h20 n0 z20 g_sx ⟨⟨((((Sx.1.1.ext E5).wr W11).ext E14).wr W20), ((((Sx.1.2.1.ext E5).other W11 (Or.inl (Exa.ne Sx.1.1 Ex (by decide)))).ext E14).other W20 (Or.inl (Exa.ne Sx.1.1 Ex (by decide)))), ((((Sx.1.2.2.1.ext E5).other W11 (Or.inl (Exa.ne Sx.1.1 Ex (by decide)))).ext E14).other W20 (Or.inl (Exa.ne Sx.1.1 Ex (by decide)))), ((((Sx.1.2.2.2.1.ext E5).other W11 (Ne.symm (Exa.neArv Ex Sx.1.2.2.2.1 (ww hw 28 rfl)))).ext E14).other W20 (Ne.symm (Exa.neArv Ex Sx.1.2.2.2.1 (ww hw 28 rfl)))), Sx.1.2.2.2.2.1, Sx.1.2.2.2.2.2⟩, ((((Sx.2.1.ext E5).other W11 (Or.inl (Exa.ne Sx.1.1 Ex (by decide)))).ext E14).other W20 (Or.inl (Exa.ne Sx.1.1 Ex (by decide)))), ((((Sx.2.2.1.ext E5).other W11 (Or.inl (Exa.ne Sx.1.1 Ex (by decide)))).ext E14).other W20 (Or.inl (Exa.ne Sx.1.1 Ex (by decide)))), Sx.2.2.2⟩ O2 P5 ((((X00.ext E5).wr W11 g_x).ext E14).wr W20 g_x)) hZ14 (ww hw 49 rfl) (ww hw 7 rfl) (by decide) (by decide)) q23a q23c (g := (mkF m 34 #[vr x, vr sx, vr mx] [(.ref sx), (.int 31), (.ref x)])) rfl (by rw [hml]; rfl) (Steps.refl _) (argsL := []) (rest := [(.int 31), (.ref x)]) (lenOf pd_ocI rfl) rfl (by show 2 * 0 + _ ≤ _; exact Nat.le_of_eq rfl) (hb hby D29_34) (fun _ _ => ⟨rfl, e20, (by decide : 4 + 0 ≤ _), (by decide : 60 + 0 ≤ _)⟩)
  dsimp only [Pt.U, Pt.locs, Pt.cells, Pt.slots] at X23 l23 y23 z23 st23 hQ23
  subst l23 y23 z23
  obtain ⟨rfl, Nq23, Kq23, So23⟩ := hQ23
  have c24 : SS p e below S0 (T23.setTop (mkF m 37 #[vr x, vr sx, vr mx] [(.int (own_hash cs)), (.int 31), (.ref x)])) := c22.trans (st23)
  have N23 := Fr.app N20 Nq23
  have z23 : n0 ≤ T23.heap.size := Nat.le_trans z20 Kq23.1
  have K23 := K20.trans Kq23 (allS (Or.inl (by simp)) all0)
  have r23 : CHr Z EL T14.vm h20 T14.vm T23.heap := CHr.keep Kq23 (sfS (r20.safe (Nat.lt_of_lt_of_le Sx.1.1.lt (Nat.le_trans (Nat.le_trans E5.1 (Keep.of_wr W11).1) E14.1)) (r14.safe (Nat.lt_of_lt_of_le Sx.1.1.lt (Nat.le_trans E5.1 (Keep.of_wr W11).1)) (r11.safe (Nat.lt_of_lt_of_le Sx.1.1.lt E5.1) (r5.safe Sx.1.1.lt hPV.1)))) sf0) R20.1
  have R23 := R20.trans r23
  have c25 : SS p e below S0 (T23.setTop (mkF m 39 #[vr x, vr sx, vr mx] [(.ref mx), (.int ((31 : Int32) * (own_hash cs))), (.ref x)])) := c24.trans (by
    show SS p e below (T23.setTop (mkF m 37 #[vr x, vr sx, vr mx] [(.int (own_hash cs)), (.int 31), (.ref x)])) _
    refine XS.imul X23.here hx rfl (hb hby D29_37) rfl ?_
    refine XS.aloadN X23.here hx rfl (hb hby D29_38) rfl rfl ?_
    exact Steps.refl _)
  obtain ⟨cq26, kq26, q26a, q26b, q26c⟩ := isOf hZ14 rfl (((((Sm.1.1.ext E5).wr W11).ext E14).wr W20).keep Kq23)
  obtain ⟨_, _, ⟨T26, L26, kk26, nn26⟩, -, X26, ⟨Lc26, hQ26, l26, y26, z26⟩, st26⟩ := X23.virtualBack hx (y := (⟨"java/lang/String", "hashCode", "()I"⟩ : MethodName)) (z := (⟨"java/lang/String", "hashCode", "()I"⟩ : MethodName)) hown14 (mvT hZ14 (ww hw 45 rfl)) (mvT hZ14 (ww hw 46 rfl)) (notFace_of_selects (args := #[]) (mvT hZ14 (ww hw 48 rfl))) (mvT hZ14 (ww hw 48 rfl)) (mvT hZ14 (ww hw 47 rfl)) (by decide) (backOf (W := 2) (rmHC l Z a0 hw [] mx ux km ds G1 T23.heap n0 z23 g_mx ⟨⟨(((((Sm.1.1.ext E5).wr W11).ext E14).wr W20).keep Kq23), (((((Sm.1.2.1.ext E5).other W11 (Or.inl (Exa.ne Sm.1.1 Ex (by decide)))).ext E14).other W20 (Or.inl (Exa.ne Sm.1.1 Ex (by decide)))).keep Kq23 (ninS (Ne.symm hsm) nin0)), (((((Sm.1.2.2.1.ext E5).other W11 (Or.inl (Exa.ne Sm.1.1 Ex (by decide)))).ext E14).other W20 (Or.inl (Exa.ne Sm.1.1 Ex (by decide)))).keep Kq23 (ninS (Ne.symm hsm) nin0)), (((((Sm.1.2.2.2.1.ext E5).other W11 (Ne.symm (Exa.neArv Ex Sm.1.2.2.2.1 (ww hw 28 rfl)))).ext E14).other W20 (Ne.symm (Exa.neArv Ex Sm.1.2.2.2.1 (ww hw 28 rfl)))).keep Kq23 (ninS (Ne.symm (Exa.neArv Sx.1.1 Sm.1.2.2.2.1 (ww hw 6 rfl))) nin0)), Sm.1.2.2.2.2.1, Sm.1.2.2.2.2.2⟩, (((((Sm.2.1.ext E5).other W11 (Or.inl (Exa.ne Sm.1.1 Ex (by decide)))).ext E14).other W20 (Or.inl (Exa.ne Sm.1.1 Ex (by decide)))).keep Kq23 (ninS (Ne.symm hsm) nin0)), (((((Sm.2.2.1.ext E5).other W11 (Or.inl (Exa.ne Sm.1.1 Ex (by decide)))).ext E14).other W20 (Or.inl (Exa.ne Sm.1.1 Ex (by decide)))).keep Kq23 (ninS (Ne.symm hsm) nin0)), Sm.2.2.2⟩ O2 P5 (((((X00.ext E5).wr W11 g_x).ext E14).wr W20 g_x).keep Kq23 (allS g_sx all0))) hZ14 (ww hw 49 rfl) (ww hw 7 rfl) (by decide) (by decide)) q26a q26c (g := (mkF m 39 #[vr x, vr sx, vr mx] [(.ref mx), (.int ((31 : Int32) * (own_hash cs))), (.ref x)])) rfl (by rw [hml]; rfl) (Steps.refl _) (argsL := []) (rest := [(.int ((31 : Int32) * (own_hash cs))), (.ref x)]) (lenOf pd_ocI rfl) rfl (by show 2 * 0 + _ ≤ _; exact Nat.le_of_eq rfl) (hb hby D29_39) (fun _ _ => ⟨rfl, rfl, (by decide : 4 + 0 ≤ _), (by decide : 60 + 0 ≤ _)⟩)
  dsimp only [Pt.U, Pt.locs, Pt.cells, Pt.slots] at X26 l26 y26 z26 st26 hQ26
  subst l26 y26 z26
  obtain ⟨rfl, Nq26, Kq26, So26⟩ := hQ26
  have c27 : SS p e below S0 (T26.setTop (mkF m 42 #[vr x, vr sx, vr mx] [(.int (own_hash ds)), (.int ((31 : Int32) * (own_hash cs))), (.ref x)])) := c25.trans (st26)
  have N26 := Fr.app N23 Nq26
  have z26 : n0 ≤ T26.heap.size := Nat.le_trans z23 Kq26.1
  have K26 := K23.trans Kq26 (allS (Or.inl (by simp)) all0)
  have r26 : CHr Z EL T14.vm T23.heap T14.vm T26.heap := CHr.keep Kq26 (sfS (r23.safe (Nat.lt_of_lt_of_le Sm.1.1.lt (Nat.le_trans (Nat.le_trans (Nat.le_trans E5.1 (Keep.of_wr W11).1) E14.1) (Keep.of_wr W20).1)) (r20.safe (Nat.lt_of_lt_of_le Sm.1.1.lt (Nat.le_trans (Nat.le_trans E5.1 (Keep.of_wr W11).1) E14.1)) (r14.safe (Nat.lt_of_lt_of_le Sm.1.1.lt (Nat.le_trans E5.1 (Keep.of_wr W11).1)) (r11.safe (Nat.lt_of_lt_of_le Sm.1.1.lt E5.1) (r5.safe Sm.1.1.lt hPV.2))))) sf0) R23.1
  have R26 := R23.trans r26
  have c28 : SS p e below S0 (T26.setTop (mkF m 43 #[vr x, vr sx, vr mx] [(.int (((31 : Int32) * (own_hash cs)) + (own_hash ds))), (.ref x)])) := c27.trans (by
    show SS p e below (T26.setTop (mkF m 42 #[vr x, vr sx, vr mx] [(.int (own_hash ds)), (.int ((31 : Int32) * (own_hash cs))), (.ref x)])) _
    refine XS.iadd X26.here hx rfl (hb hby D29_42) rfl ?_
    exact Steps.refl _)
  obtain ⟨T29, h29, X29, e29, W29, st29⟩ := putF X26 hx hZ14 hown14 (host := "") (Or.inl (ww hw 64 rfl)) Via.refl rfl ((((((F2.ext E5).other W11 (Or.inr (slot_ne (Or.inr (ww hw 65 rfl)) (Or.inr (ww hw 41 rfl)) (by decide) (t := .int) (t' := (.object "java/lang/String")) (by decide) (by decide)))).ext E14).other W20 (Or.inr (slot_ne (Or.inr (ww hw 65 rfl)) (Or.inr (ww hw 44 rfl)) (by decide) (t := .int) (t' := (.object "java/lang/String")) (by decide) (by decide)))).keep Kq23 (ninS (Ne.symm (Exa.ne Sx.1.1 Ex (by decide))) nin0)).keep Kq26 (ninS (Ne.symm (Exa.ne Sm.1.1 Ex (by decide))) nin0)) ((((((Ex.ext E5).wr W11).ext E14).wr W20).keep Kq23).keep Kq26) (Or.inr ⟨(ww hw 65 rfl), rfl, hnm⟩) (ww hw 28 rfl) (ty := .int) (by decide) rfl rfl (g := (mkF m 43 #[vr x, vr sx, vr mx] [(.int (((31 : Int32) * (own_hash cs)) + (own_hash ds))), (.ref x)])) rfl rfl (hb hby D29_43)
  have c30 : SS p e below S0 (T29.setTop (mkF m 46 #[vr x, vr sx, vr mx] [])) := c28.trans (st29 _ (Steps.refl _))
  have N29 := Fr.snoc X29 N26 g_x
  have Fw29 := ((((((F2.ext E5).other W11 (Or.inr (slot_ne (Or.inr (ww hw 65 rfl)) (Or.inr (ww hw 41 rfl)) (by decide) (t := .int) (t' := (.object "java/lang/String")) (by decide) (by decide)))).ext E14).other W20 (Or.inr (slot_ne (Or.inr (ww hw 65 rfl)) (Or.inr (ww hw 44 rfl)) (by decide) (t := .int) (t' := (.object "java/lang/String")) (by decide) (by decide)))).keep Kq23 (ninS (Ne.symm (Exa.ne Sx.1.1 Ex (by decide))) nin0)).keep Kq26 (ninS (Ne.symm (Exa.ne Sm.1.1 Ex (by decide))) nin0)).same W29
  have z29 : n0 ≤ h29.size := Nat.le_trans z26 (Keep.of_wr W29).1
  have K29 := K26.wr W29 (Or.inl (by simp))
  have r29 : CHr Z EL T14.vm T26.heap T14.vm h29 := CHr.wr W29 (Safe.exa hZ14.alike ((((((Ex.ext E5).wr W11).ext E14).wr W20).keep Kq23).keep Kq26) (by decide) (by decide)) R26.1
  have R29 := R26.trans r29
  obtain ⟨fs, hr, hrun, hended, hW⟩ := X29.leaveW hS14 (by rw [e29]; exact (Nat.le_trans hk14 (Nat.le_trans (Nat.le_trans (Nat.le_trans (Keep.of_wr W20).1 Kq23.1) Kq26.1) (Keep.of_wr W29).1))) (v := none) (fun h => rfl)
  refine ⟨_, _, c30.trans (X29.returnOut hx Bd.returns (hb hby D29_46) hr), hrun, hended, _, _, rfl, ?_, ?_, hW.1, hW.2.1, hW.2.2.1, hW.2.2.2.mono (by first | decide | exact Nat.le_of_ble_eq_true rfl) (by first | decide | exact Nat.le_of_ble_eq_true rfl)⟩
  · show QRt Z x sx tx mx ux kx km cs ds h0 n0 _ T29.heap _
    rw [e29]
    exact ⟨rfl, N29, K29, (((((((Ex.ext E5).wr W11).ext E14).wr W20).keep Kq23).keep Kq26).wr W29), (((((Fw11.ext E14).other W20 (Or.inr (slot_ne (Or.inr (ww hw 41 rfl)) (Or.inr (ww hw 44 rfl)) (by decide) (t := (.object "java/lang/String")) (t' := (.object "java/lang/String")) (by decide) (by decide)))).keep Kq23 (ninS (Ne.symm (Exa.ne Sx.1.1 Ex (by decide))) nin0)).keep Kq26 (ninS (Ne.symm (Exa.ne Sm.1.1 Ex (by decide))) nin0)).other W29 (Or.inr (slot_ne (Or.inr (ww hw 41 rfl)) (Or.inr (ww hw 65 rfl)) (by decide) (t := (.object "java/lang/String")) (t' := .int) (by decide) (by decide)))), (((Fw20.keep Kq23 (ninS (Ne.symm (Exa.ne Sx.1.1 Ex (by decide))) nin0)).keep Kq26 (ninS (Ne.symm (Exa.ne Sm.1.1 Ex (by decide))) nin0)).other W29 (Or.inr (slot_ne (Or.inr (ww hw 44 rfl)) (Or.inr (ww hw 65 rfl)) (by decide) (t := (.object "java/lang/String")) (t' := .int) (by decide) (by decide)))), ⟨((So23.1.keep Kq26).wr W29), ((So23.2.1.keep Kq26 (ninS hsm nin0)).other W29 (Or.inl (Exa.ne Sx.1.1 Ex (by decide)))), ((So23.2.2.1.keep Kq26 (ninS hsm nin0)).other W29 (Or.inl (Exa.ne Sx.1.1 Ex (by decide)))), ((So23.2.2.2.1.keep Kq26 (ninS (Ne.symm (Exa.neArv Sm.1.1 Sx.1.2.2.2.1 (ww hw 6 rfl))) nin0)).other W29 (Ne.symm (Exa.neArv Ex Sx.1.2.2.2.1 (ww hw 28 rfl)))), So23.2.2.2.2.1, So23.2.2.2.2.2⟩, ⟨(So26.1.wr W29), (So26.2.1.other W29 (Or.inl (Exa.ne Sm.1.1 Ex (by decide)))), (So26.2.2.1.other W29 (Or.inl (Exa.ne Sm.1.1 Ex (by decide)))), (So26.2.2.2.1.other W29 (Ne.symm (Exa.neArv Ex Sm.1.2.2.2.1 (ww hw 28 rfl)))), So26.2.2.2.2.1, So26.2.2.2.2.2⟩⟩
  · refine ⟨?_, ?_⟩
    · show CHr Z EL s.vm s.heap T29.vm T29.heap
      rw [hh, e29]; exact R29.trans (CHv.at X29 hZ14 hEL R29.1)
    · show GT Z _ T29.vm T29.heap
      rw [e29]; exact trivial

theorem D30_0 : decode prog_27_method_6_code 0 = .ok (.new 38, 3) := by decide +kernel
theorem D30_3 : decode prog_27_method_6_code 3 = .ok (.dup, 1) := by decide +kernel
theorem pd_ocV : parseMethodDescriptor "()V" = some ⟨[], none⟩ := by decide +kernel
theorem D30_4 : decode prog_27_method_6_code 4 = .ok (.invokespecial 40, 3) := by decide +kernel
theorem D30_7 : decode prog_27_method_6_code 7 = .ok (.aload_n 0, 1) := by decide +kernel
theorem D30_8 : decode prog_27_method_6_code 8 = .ok (.getfield 17, 3) := by decide +kernel
theorem pd_oLjavaslangsStringecLjavaslangsStringBuildere : parseMethodDescriptor "(Ljava/lang/String;)Ljava/lang/StringBuilder;" = some ⟨[(.object "java/lang/String")], some (.object "java/lang/StringBuilder")⟩ := by decide +kernel
theorem D30_11 : decode prog_27_method_6_code 11 = .ok (.invokevirtual 41, 3) := by decide +kernel
theorem D30_14 : decode prog_27_method_6_code 14 = .ok (.ldc 45, 2) := by decide +kernel
theorem D30_16 : decode prog_27_method_6_code 16 = .ok (.invokevirtual 41, 3) := by decide +kernel
theorem D30_19 : decode prog_27_method_6_code 19 = .ok (.aload_n 0, 1) := by decide +kernel
theorem D30_20 : decode prog_27_method_6_code 20 = .ok (.getfield 24, 3) := by decide +kernel
theorem D30_23 : decode prog_27_method_6_code 23 = .ok (.invokevirtual 41, 3) := by decide +kernel
theorem pd_ocLjavaslangsStringe : parseMethodDescriptor "()Ljava/lang/String;" = some ⟨[], some (.object "java/lang/String")⟩ := by decide +kernel
theorem D30_26 : decode prog_27_method_6_code 26 = .ok (.invokevirtual 47, 3) := by decide +kernel
theorem D30_29 : decode prog_27_method_6_code 29 = .ok (.areturn, 1) := by decide +kernel
theorem ef_rmT (m : MethodId) (x0 : Addr) : entryFrame m #[(.ref x0)] 1 = mkF m 0 #[.val (.ref x0)] [] := by first | (simp [entryFrame, mkF, argsToLocals, Value.category]; done) | rfl
set_option maxRecDepth 65536 in
set_option maxHeartbeats 40000000 in
theorem rmT (l : Launch) (Z : State) (a0 : Array Value) (hw : ∀ d ∈ tables_1, d.before a0 Z = true) (ws : List Jvm.Cond) (rx sx tx mx ux : Addr) (kx km : ClassId) (cs ds : List Int32) (G1 : Int32) (h0 : Heap) (n0 : Nat) (Z0 : n0 ≤ h0.size) (G0 : Fld Z h0 rx "com/example/evenkeel/evenkeel/Route" "service" "Ljava/lang/String;" (.ref sx)) (G1f : Fld Z h0 rx "com/example/evenkeel/evenkeel/Route" "method" "Ljava/lang/String;" (.ref mx)) (Sx : OStr Z h0 sx tx kx cs) (Sm : OStr Z h0 mx ux km ds) (hc2 : cs.length ≤ 2) (hd2 : ds.length ≤ 2) (O2 : Sta Z Z.heap "java/lang/String" "COMPACT_STRINGS" "Z" (.int G1)) (P5 : ¬ G1 = 0) (X00 : Old Z n0 h0) :
    MetFree l (⟨"com/example/evenkeel/evenkeel/Route", "toString", "()Ljava/lang/String;"⟩ : MethodName) (head1 (Jvm.Cond.code (⟨"com/example/evenkeel/evenkeel/Route", "toString", "()Ljava/lang/String;"⟩ : MethodName) prog_27_method_6_code 1 (some (.object "java/lang/String")) :: ws) ({ frames := 6, cells := 6, slots := 48, locals := 113 } : Room)) (fun aa U => aa = #[(.ref rx)] ∧ Z.Warmed39 U.vm ∧ U.heap = h0 ∧ CHv Z EL U.vm h0) (fun _ _ _ _ _ => True) (fun _ U o U' => ∃ v L, o = .returned v ∧ QMkS Z ((([] ++ cs) ++ [46]) ++ ds : List Int32) h0 n0 v U'.heap L ∧ CHr Z EL U.vm U.heap U'.vm U'.heap ∧ ReturnedEndW U o U' L ({ frames := 6, cells := 6, slots := 48, locals := 113 } : Room).cells ({ frames := 6, cells := 6, slots := 48, locals := 113 } : Room).slots) := by
  refine MetFree.of_bodySF (plainFor_of_name pn_com_example_evenkeel_evenkeel_Route) hisR ?_
  intro p e s m args below meth c s₁ Bd hml0 hP hK
  obtain ⟨rfl, hZ, hh, hCH⟩ := hP
  have hx := Bd.exec
  have hby := Bd.bytes
  have hml : c.maxLocals = 1 := hml0
  have hown : s.vm.findClass "com/example/evenkeel/evenkeel/Route" = some m.cls := findClass_of_methodNamed Bd.named
  have hnm := (name_of_methodNamed Bd.named Bd.method).1
  have X0 : Stand p l e ({ frames := 6, cells := 6, slots := 48, locals := 113 } : Room) s m #[(.ref rx)] below meth c s₁ [] 0 0 := Stand.of_body Bd
  have e0 : s₁.heap = h0 := by rw [← hh, Bd.state]; rfl
  have N0 := Fr.nil n0
  have K0 := Keep.refl h0 []
  obtain ⟨S0, hS0⟩ : ∃ z, z = s₁.setTop (entryFrame m #[(.ref rx)] 1) := ⟨_, rfl⟩
  rw [← hS0]
  have c0 : SS p e below S0 (s₁.setTop (mkF m 0 #[vr rx] [])) := by
    rw [hS0]; exact castTop (ef_rmT m rx) (Steps.refl _)
  have X0 : Stand p l e ({ frames := 6, cells := 6, slots := 48, locals := 113 } : Room) (s.setVm s.vm) m #[(.ref rx)] below meth c s₁ [] 0 0 := X0
  have hS0 : s.Since s.vm 0 := own_since s
  have R0 : CHr Z EL s.vm h0 s.vm h0 := CHr.refl hCH
  have hEL := own_EW hw
  have hwS := own_strw hw
  obtain ⟨T1, h1, X1, e1, E1, A1, D1, -, st1⟩ := newO X0 hx hZ hown (ww hw 71 rfl) (ww hw 72 rfl) (ww hw 73 rfl) e0 (g := (mkF m 0 #[vr rx] [])) rfl (hb hby D30_0) (by decide) (by decide)
  obtain ⟨b1, g1⟩ : ∃ z, z = h0.size := ⟨_, rfl⟩
  rw [← g1] at A1 D1 st1
  have sn1 : Safe Z EL s.vm h0 b1 := Safe.new (Nat.le_of_eq g1.symm)
  have c2 : SS p e below S0 (T1.setTop (mkF m 3 #[vr rx] [(.ref b1)])) := c0.trans (st1 _ (Steps.refl _))
  have z1 : n0 ≤ h1.size := Nat.le_trans Z0 E1.1
  have K1 := K0.ext E1
  have r1 : CHr Z EL s.vm h0 s.vm h1 := CHr.ext E1 R0.1
  have R1 := R0.trans r1
  have lt_b1 : b1 < h1.size := A1.lt
  have sf1 : Safe Z EL s.vm h1 b1 := Safe.ext E1 R0.1 sn1
  have F1_value : Fld Z h1 b1 "java/lang/AbstractStringBuilder" "value" "[B" .null := D1 (Or.inl (ww hw 86 rfl)) (ty := (.array .byte)) (by decide)
  have F1_coder : Fld Z h1 b1 "java/lang/AbstractStringBuilder" "coder" "B" (.int 0) := D1 (Or.inl (ww hw 88 rfl)) (ty := .byte) (by decide)
  have F1_count : Fld Z h1 b1 "java/lang/AbstractStringBuilder" "count" "I" (.int 0) := D1 (Or.inl (ww hw 110 rfl)) (ty := .int) (by decide)
  have c3 : SS p e below S0 (T1.setTop (mkF m 4 #[vr rx] [(.ref b1), (.ref b1)])) := c2.trans (by
    show SS p e below (T1.setTop (mkF m 3 #[vr rx] [(.ref b1)])) _
    refine XS.dup X1.here hx rfl (hb hby D30_3) rfl rfl ?_
    exact Steps.refl _)
  obtain ⟨_, _, ⟨T4, L4, kk4, nn4⟩, -, X4, ⟨Lc4, hQ4, l4, y4, z4⟩, st4⟩ := X1.specialBack hx (y := (⟨"java/lang/StringBuilder", "<init>", "()V"⟩ : MethodName)) rfl hown (mvT hZ (ww hw 74 rfl)) (mvT hZ (ww hw 75 rfl)) (mvT hZ (ww hw 76 rfl)) (by decide) (backOf (W := 1) (rmSI l Z a0 hw [] b1 G1 h1 n0 z1 (Nat.le_trans Z0 (Nat.le_trans K0.1 (Nat.le_of_eq g1.symm))) A1 F1_value F1_coder F1_count O2 P5 (X00.ext E1)) hZ (ww hw 76 rfl) (ww hw 73 rfl) (by decide) (by decide)) (g := (mkF m 4 #[vr rx] [(.ref b1), (.ref b1)])) rfl (by rw [hml]; rfl) (Steps.refl _) (a := b1) (argsL := []) (rest := [(.ref b1)]) (lenOf pd_ocV rfl) rfl (by show 2 * 0 + _ ≤ _; exact Nat.le_of_eq rfl) (hb hby D30_4) (fun _ _ => ⟨rfl, e1, (by decide : 1 + 1 ≤ _), (by decide : 4 + 16 ≤ _)⟩)
  dsimp only [Pt.U, Pt.locs, Pt.cells, Pt.slots] at X4 l4 y4 z4 st4 hQ4
  subst l4 y4 z4
  obtain ⟨t4, kb4, rfl, Nq4, Kq4, gt4, Bq4⟩ := hQ4
  have c5 : SS p e below S0 (T4.setTop (mkF m 7 #[vr rx] [(.ref b1)])) := c3.trans (st4)
  have N4 := Fr.app N0 Nq4
  have z4 : n0 ≤ T4.heap.size := Nat.le_trans z1 Kq4.1
  have K4 := K1.trans Kq4 (allS (Or.inr (Nat.le_trans K0.1 (Nat.le_of_eq g1.symm))) all0)
  have r4 : CHr Z EL s.vm h1 s.vm T4.heap := CHr.keep Kq4 (sfS (Safe.exa hZ.alike A1 (by decide) (by decide)) sf0) R1.1
  have R4 := R1.trans r4
  have lt_t4 := Bq4.2.2.2.2.1.lt
  have sf_t4 : Safe Z EL s.vm T4.heap t4 := Safe.keep Kq4 (sfS (Safe.exa hZ.alike A1 (by decide) (by decide)) sf0) R1.1 (Safe.new gt4)
  have c6 : SS p e below S0 (T4.setTop (mkF m 8 #[vr rx] [(.ref rx), (.ref b1)])) := c5.trans (by
    show SS p e below (T4.setTop (mkF m 7 #[vr rx] [(.ref b1)])) _
    refine XS.aloadN X4.here hx rfl (hb hby D30_7) rfl rfl ?_
    exact Steps.refl _)
  obtain ⟨T7, X7, e7, st7⟩ := getF X4 hx hZ hown (host := "") (Or.inl (ww hw 40 rfl)) Via.refl rfl ((G0.ext E1).keep Kq4 (ninS (Nat.ne_of_lt (Nat.lt_of_lt_of_le G0.lt (Nat.le_of_eq g1.symm))) nin0)) (g := (mkF m 8 #[vr rx] [(.ref rx), (.ref b1)])) rfl rfl (hb hby D30_8)
  have c8 : SS p e below S0 (T7.setTop (mkF m 11 #[vr rx] [(.ref sx), (.ref b1)])) := c6.trans (st7 _ (Steps.refl _))
  obtain ⟨cq9, kq9, q9a, q9b, q9c⟩ := isOf hZ e7 Bq4.1
  obtain ⟨_, _, ⟨T9, L9, kk9, nn9⟩, -, X9, ⟨Lc9, hQ9, l9, y9, z9⟩, st9⟩ := X7.virtualBack hx (y := (⟨"java/lang/StringBuilder", "append", "(Ljava/lang/String;)Ljava/lang/StringBuilder;"⟩ : MethodName)) (z := (⟨"java/lang/StringBuilder", "append", "(Ljava/lang/String;)Ljava/lang/StringBuilder;"⟩ : MethodName)) hown (mvT hZ (ww hw 89 rfl)) (mvT hZ (ww hw 90 rfl)) (notFace_of_selects (args := #[]) (mvT hZ (ww hw 92 rfl))) (mvT hZ (ww hw 92 rfl)) (mvT hZ (ww hw 91 rfl)) (by decide) (backOf (W := 0) (rmSA l Z a0 hw [] b1 t4 kb4 ([] : List Int32) sx tx kx cs G1 T4.heap n0 z4 (Nat.le_trans Z0 (Nat.le_trans K0.1 (Nat.le_of_eq g1.symm))) (Nat.le_trans Z0 (Nat.le_trans K1.1 gt4)) (by simp only [List.length_append, List.length_nil, List.length_cons, List.nil_append]; omega) ⟨Bq4.1, Bq4.2.1, Bq4.2.2.1, Bq4.2.2.2.1, Bq4.2.2.2.2.1, Bq4.2.2.2.2.2⟩ ⟨((Sx.1.ext E1).keep Kq4), ((Sx.2.1.ext E1).keep Kq4 (ninS (Nat.ne_of_lt (Nat.lt_of_lt_of_le Sx.1.lt (Nat.le_of_eq g1.symm))) nin0)), ((Sx.2.2.1.ext E1).keep Kq4 (ninS (Nat.ne_of_lt (Nat.lt_of_lt_of_le Sx.1.lt (Nat.le_of_eq g1.symm))) nin0)), ((Sx.2.2.2.1.ext E1).keep Kq4 (ninS (Nat.ne_of_lt (Nat.lt_of_lt_of_le Sx.2.2.2.1.lt (Nat.le_of_eq g1.symm))) nin0)), Sx.2.2.2.2.1, Sx.2.2.2.2.2⟩ O2 P5 ((X00.ext E1).keep Kq4 (allS (Nat.le_trans Z0 (Nat.le_trans K0.1 (Nat.le_of_eq g1.symm))) all0))) hZ (ww hw 93 rfl) (ww hw 73 rfl) (by decide) (by decide)) q9a q9c (g := (mkF m 11 #[vr rx] [(.ref sx), (.ref b1)])) rfl (by rw [hml]; rfl) (Steps.refl _) (argsL := [(.ref sx)]) (rest := []) (lenOf pd_oLjavaslangsStringecLjavaslangsStringBuildere rfl) rfl (by show 2 * 0 + _ ≤ _; exact Nat.le_of_eq rfl) (hb hby D30_11) (fun _ _ => ⟨rfl, e7, (by decide : 2 + 0 ≤ _), (by decide : 20 + 0 ≤ _)⟩)
  dsimp only [Pt.U, Pt.locs, Pt.cells, Pt.slots] at X9 l9 y9 z9 st9 hQ9
  subst l9 y9 z9
  obtain ⟨rfl, Nq9, Kq9, Bq9⟩ := hQ9
  have c10 : SS p e below S0 (T9.setTop (mkF m 14 #[vr rx] [(.ref b1)])) := c8.trans (st9)
  have N9 := Fr.app N4 Nq9
  have z9 : n0 ≤ T9.heap.size := Nat.le_trans z4 Kq9.1
  have K9 := K4.trans Kq9 (allS (Or.inr (Nat.le_trans K0.1 (Nat.le_of_eq g1.symm))) (allS (Or.inr (Nat.le_trans K1.1 gt4)) all0))
  have r9 : CHr Z EL s.vm T4.heap s.vm T9.heap := CHr.keep Kq9 (sfS (Safe.exa hZ.alike Bq4.1 (by decide) (by decide)) (sfS sf_t4 sf0)) R4.1
  have R9 := R4.trans r9
  obtain ⟨a11, T11, h11, k11, t11, kb11, X11, e11, E11, hS11, hk11, hZ11, hown11, Ex11, Fc11, Fv11, Va11, la11, lb11, r11, -, hsf11, st11⟩ := ldcCH X9 hx hZ hown (ww hw 136 rfl) hwS rfl hS0 (Nat.le_trans (Nat.zero_le _) (Nat.le_trans (Nat.le_trans E1.1 Kq4.1) Kq9.1)) hEL (List.mem_of_getElem? (i := 2) rfl) R9.1 (vs := [.int (46 : Int32)]) (z := 1) ⟨by simp, rfl⟩ (by decide) rfl (g := (mkF m 14 #[vr rx] [(.ref b1)])) rfl (hb hby D30_14) (n := 4) (by decide) (by decide) (by decide) (by decide)
  have c12 : SS p e below S0 (T11.setTop (mkF m 16 #[vr rx] [(.ref a11), (.ref b1)])) := c10.trans (st11 _ (Steps.refl _))
  have z11 : n0 ≤ h11.size := Nat.le_trans z9 E11.1
  have K11 := K9.ext E11
  have R11 := R9.trans r11
  have nl13 := hsf11 b1 (Safe.exa hZ11.alike (Bq9.1.ext E11) (by decide) (by decide))
  have nl14 := hsf11 t4 (r11.safe Bq9.2.2.2.2.1.lt (r9.safe lt_t4 sf_t4))
  have Sd : OStr Z h11 a11 t11 kb11 [46] := ⟨Ex11, Fv11, Fc11, Va11, own_alS ⟨by decide, by decide⟩ own_al0, Nat.le_of_ble_eq_true rfl⟩
  obtain ⟨cq15, kq15, q15a, q15b, q15c⟩ := isOf hZ11 e11 (Bq9.1.ext E11)
  obtain ⟨_, _, ⟨T15, L15, kk15, nn15⟩, -, X15, ⟨Lc15, hQ15, l15, y15, z15⟩, st15⟩ := X11.virtualBack hx (y := (⟨"java/lang/StringBuilder", "append", "(Ljava/lang/String;)Ljava/lang/StringBuilder;"⟩ : MethodName)) (z := (⟨"java/lang/StringBuilder", "append", "(Ljava/lang/String;)Ljava/lang/StringBuilder;"⟩ : MethodName)) hown11 (mvT hZ11 (ww hw 89 rfl)) (mvT hZ11 (ww hw 90 rfl)) (notFace_of_selects (args := #[]) (mvT hZ11 (ww hw 92 rfl))) (mvT hZ11 (ww hw 92 rfl)) (mvT hZ11 (ww hw 91 rfl)) (by decide) (backOf (W := 0) (rmSA l Z a0 hw [] b1 t4 kb4 (([] : List Int32) ++ cs) a11 t11 kb11 ([46] : List Int32) G1 h11 n0 z11 (Nat.le_trans Z0 (Nat.le_trans K0.1 (Nat.le_of_eq g1.symm))) (Nat.le_trans Z0 (Nat.le_trans K1.1 gt4)) (by simp only [List.length_append, List.length_nil, List.length_cons, List.nil_append]; omega) ⟨(Bq9.1.ext E11), (Bq9.2.1.ext E11), (Bq9.2.2.1.ext E11), (Bq9.2.2.2.1.ext E11), (Bq9.2.2.2.2.1.ext E11), Bq9.2.2.2.2.2⟩ ⟨Sd.1, Sd.2.1, Sd.2.2.1, Sd.2.2.2.1, Sd.2.2.2.2.1, Sd.2.2.2.2.2⟩ O2 P5 ((((X00.ext E1).keep Kq4 (allS (Nat.le_trans Z0 (Nat.le_trans K0.1 (Nat.le_of_eq g1.symm))) all0)).keep Kq9 (allS (Nat.le_trans Z0 (Nat.le_trans K0.1 (Nat.le_of_eq g1.symm))) (allS (Nat.le_trans Z0 (Nat.le_trans K1.1 gt4)) all0))).ext E11)) hZ11 (ww hw 93 rfl) (ww hw 73 rfl) (by decide) (by decide)) q15a q15c (g := (mkF m 16 #[vr rx] [(.ref a11), (.ref b1)])) rfl (by rw [hml]; rfl) (Steps.refl _) (argsL := [(.ref a11)]) (rest := []) (lenOf pd_oLjavaslangsStringecLjavaslangsStringBuildere rfl) rfl (by show 2 * 0 + _ ≤ _; exact Nat.le_of_eq rfl) (hb hby D30_16) (fun _ _ => ⟨rfl, e11, (by decide : 4 + 0 ≤ _), (by decide : 28 + 0 ≤ _)⟩)
  dsimp only [Pt.U, Pt.locs, Pt.cells, Pt.slots] at X15 l15 y15 z15 st15 hQ15
  subst l15 y15 z15
  obtain ⟨rfl, Nq15, Kq15, Bq15⟩ := hQ15
  have c16 : SS p e below S0 (T15.setTop (mkF m 19 #[vr rx] [(.ref b1)])) := c12.trans (st15)
  have N15 := Fr.app N9 Nq15
  have z15 : n0 ≤ T15.heap.size := Nat.le_trans z11 Kq15.1
  have K15 := K11.trans Kq15 (allS (Or.inr (Nat.le_trans K0.1 (Nat.le_of_eq g1.symm))) (allS (Or.inr (Nat.le_trans K1.1 gt4)) all0))
  have r15 : CHr Z EL T11.vm h11 T11.vm T15.heap := CHr.keep Kq15 (sfS (Safe.exa hZ11.alike (Bq9.1.ext E11) (by decide) (by decide)) (sfS (r11.safe Bq9.2.2.2.2.1.lt (r9.safe lt_t4 sf_t4)) sf0)) R11.1
  have R15 := R11.trans r15
  have c17 : SS p e below S0 (T15.setTop (mkF m 20 #[vr rx] [(.ref rx), (.ref b1)])) := c16.trans (by
    show SS p e below (T15.setTop (mkF m 19 #[vr rx] [(.ref b1)])) _
    refine XS.aloadN X15.here hx rfl (hb hby D30_19) rfl rfl ?_
    exact Steps.refl _)
  obtain ⟨T18, X18, e18, st18⟩ := getF X15 hx hZ11 hown11 (host := "") (Or.inl (ww hw 43 rfl)) Via.refl rfl (((((G1f.ext E1).keep Kq4 (ninS (Nat.ne_of_lt (Nat.lt_of_lt_of_le G0.lt (Nat.le_of_eq g1.symm))) nin0)).keep Kq9 (ninS (Nat.ne_of_lt (Nat.lt_of_lt_of_le G0.lt (Nat.le_of_eq g1.symm))) (ninS (Nat.ne_of_lt (Nat.lt_of_lt_of_le (Nat.lt_of_lt_of_le G0.lt E1.1) gt4)) nin0))).ext E11).keep Kq15 (ninS (Nat.ne_of_lt (Nat.lt_of_lt_of_le G0.lt (Nat.le_of_eq g1.symm))) (ninS (Nat.ne_of_lt (Nat.lt_of_lt_of_le (Nat.lt_of_lt_of_le G0.lt E1.1) gt4)) nin0))) (g := (mkF m 20 #[vr rx] [(.ref rx), (.ref b1)])) rfl rfl (hb hby D30_20)
  have c19 : SS p e below S0 (T18.setTop (mkF m 23 #[vr rx] [(.ref mx), (.ref b1)])) := c17.trans (st18 _ (Steps.refl _))
  obtain ⟨cq20, kq20, q20a, q20b, q20c⟩ := isOf hZ11 e18 Bq15.1
  obtain ⟨_, _, ⟨T20, L20, kk20, nn20⟩, -, X20, ⟨Lc20, hQ20, l20, y20, z20⟩, st20⟩ := X18.virtualBack hx (y := (⟨"java/lang/StringBuilder", "append", "(Ljava/lang/String;)Ljava/lang/StringBuilder;"⟩ : MethodName)) (z := (⟨"java/lang/StringBuilder", "append", "(Ljava/lang/String;)Ljava/lang/StringBuilder;"⟩ : MethodName)) hown11 (mvT hZ11 (ww hw 89 rfl)) (mvT hZ11 (ww hw 90 rfl)) (notFace_of_selects (args := #[]) (mvT hZ11 (ww hw 92 rfl))) (mvT hZ11 (ww hw 92 rfl)) (mvT hZ11 (ww hw 91 rfl)) (by decide) (backOf (W := 0) (rmSA l Z a0 hw [] b1 t4 kb4 ((([] : List Int32) ++ cs) ++ ([46] : List Int32)) mx ux km ds G1 T15.heap n0 z15 (Nat.le_trans Z0 (Nat.le_trans K0.1 (Nat.le_of_eq g1.symm))) (Nat.le_trans Z0 (Nat.le_trans K1.1 gt4)) (by simp only [List.length_append, List.length_nil, List.length_cons, List.nil_append]; omega) ⟨Bq15.1, Bq15.2.1, Bq15.2.2.1, Bq15.2.2.2.1, Bq15.2.2.2.2.1, Bq15.2.2.2.2.2⟩ ⟨(((((Sm.1.ext E1).keep Kq4).keep Kq9).ext E11).keep Kq15), (((((Sm.2.1.ext E1).keep Kq4 (ninS (Nat.ne_of_lt (Nat.lt_of_lt_of_le Sm.1.lt (Nat.le_of_eq g1.symm))) nin0)).keep Kq9 (ninS (Nat.ne_of_lt (Nat.lt_of_lt_of_le Sm.1.lt (Nat.le_of_eq g1.symm))) (ninS (Nat.ne_of_lt (Nat.lt_of_lt_of_le (Nat.lt_of_lt_of_le Sm.1.lt E1.1) gt4)) nin0))).ext E11).keep Kq15 (ninS (Nat.ne_of_lt (Nat.lt_of_lt_of_le Sm.1.lt (Nat.le_of_eq g1.symm))) (ninS (Nat.ne_of_lt (Nat.lt_of_lt_of_le (Nat.lt_of_lt_of_le Sm.1.lt E1.1) gt4)) nin0))), (((((Sm.2.2.1.ext E1).keep Kq4 (ninS (Nat.ne_of_lt (Nat.lt_of_lt_of_le Sm.1.lt (Nat.le_of_eq g1.symm))) nin0)).keep Kq9 (ninS (Nat.ne_of_lt (Nat.lt_of_lt_of_le Sm.1.lt (Nat.le_of_eq g1.symm))) (ninS (Nat.ne_of_lt (Nat.lt_of_lt_of_le (Nat.lt_of_lt_of_le Sm.1.lt E1.1) gt4)) nin0))).ext E11).keep Kq15 (ninS (Nat.ne_of_lt (Nat.lt_of_lt_of_le Sm.1.lt (Nat.le_of_eq g1.symm))) (ninS (Nat.ne_of_lt (Nat.lt_of_lt_of_le (Nat.lt_of_lt_of_le Sm.1.lt E1.1) gt4)) nin0))), (((((Sm.2.2.2.1.ext E1).keep Kq4 (ninS (Nat.ne_of_lt (Nat.lt_of_lt_of_le Sm.2.2.2.1.lt (Nat.le_of_eq g1.symm))) nin0)).keep Kq9 (ninS (Nat.ne_of_lt (Nat.lt_of_lt_of_le Sm.2.2.2.1.lt (Nat.le_of_eq g1.symm))) (ninS (Nat.ne_of_lt (Nat.lt_of_lt_of_le (Nat.lt_of_lt_of_le Sm.2.2.2.1.lt E1.1) gt4)) nin0))).ext E11).keep Kq15 (ninS (Nat.ne_of_lt (Nat.lt_of_lt_of_le Sm.2.2.2.1.lt (Nat.le_of_eq g1.symm))) (ninS (Nat.ne_of_lt (Nat.lt_of_lt_of_le (Nat.lt_of_lt_of_le Sm.2.2.2.1.lt E1.1) gt4)) nin0))), Sm.2.2.2.2.1, Sm.2.2.2.2.2⟩ O2 P5 (((((X00.ext E1).keep Kq4 (allS (Nat.le_trans Z0 (Nat.le_trans K0.1 (Nat.le_of_eq g1.symm))) all0)).keep Kq9 (allS (Nat.le_trans Z0 (Nat.le_trans K0.1 (Nat.le_of_eq g1.symm))) (allS (Nat.le_trans Z0 (Nat.le_trans K1.1 gt4)) all0))).ext E11).keep Kq15 (allS (Nat.le_trans Z0 (Nat.le_trans K0.1 (Nat.le_of_eq g1.symm))) (allS (Nat.le_trans Z0 (Nat.le_trans K1.1 gt4)) all0)))) hZ11 (ww hw 93 rfl) (ww hw 73 rfl) (by decide) (by decide)) q20a q20c (g := (mkF m 23 #[vr rx] [(.ref mx), (.ref b1)])) rfl (by rw [hml]; rfl) (Steps.refl _) (argsL := [(.ref mx)]) (rest := []) (lenOf pd_oLjavaslangsStringecLjavaslangsStringBuildere rfl) rfl (by show 2 * 0 + _ ≤ _; exact Nat.le_of_eq rfl) (hb hby D30_23) (fun _ _ => ⟨rfl, e18, (by decide : 4 + 0 ≤ _), (by decide : 28 + 0 ≤ _)⟩)
  dsimp only [Pt.U, Pt.locs, Pt.cells, Pt.slots] at X20 l20 y20 z20 st20 hQ20
  subst l20 y20 z20
  obtain ⟨rfl, Nq20, Kq20, Bq20⟩ := hQ20
  have c21 : SS p e below S0 (T20.setTop (mkF m 26 #[vr rx] [(.ref b1)])) := c19.trans (st20)
  have N20 := Fr.app N15 Nq20
  have z20 : n0 ≤ T20.heap.size := Nat.le_trans z15 Kq20.1
  have K20 := K15.trans Kq20 (allS (Or.inr (Nat.le_trans K0.1 (Nat.le_of_eq g1.symm))) (allS (Or.inr (Nat.le_trans K1.1 gt4)) all0))
  have r20 : CHr Z EL T11.vm T15.heap T11.vm T20.heap := CHr.keep Kq20 (sfS (Safe.exa hZ11.alike Bq15.1 (by decide) (by decide)) (sfS (r15.safe (Nat.lt_of_lt_of_le lt_t4 (Nat.le_trans Kq9.1 E11.1)) (r11.safe (Nat.lt_of_lt_of_le lt_t4 Kq9.1) (r9.safe lt_t4 sf_t4))) sf0)) R15.1
  have R20 := R15.trans r20
  obtain ⟨cq22, kq22, q22a, q22b, q22c⟩ := isOf hZ11 rfl Bq20.1
  obtain ⟨_, _, ⟨T22, L22, kk22, nn22⟩, -, X22, ⟨Lc22, hQ22, l22, y22, z22⟩, st22⟩ := X20.virtualBack hx (y := (⟨"java/lang/StringBuilder", "toString", "()Ljava/lang/String;"⟩ : MethodName)) (z := (⟨"java/lang/StringBuilder", "toString", "()Ljava/lang/String;"⟩ : MethodName)) hown11 (mvT hZ11 (ww hw 137 rfl)) (mvT hZ11 (ww hw 138 rfl)) (notFace_of_selects (args := #[]) (mvT hZ11 (ww hw 140 rfl))) (mvT hZ11 (ww hw 140 rfl)) (mvT hZ11 (ww hw 139 rfl)) (by decide) (backOf (W := 0) (rmTS l Z a0 hw [] b1 t4 kb4 (((([] : List Int32) ++ cs) ++ ([46] : List Int32)) ++ ds) G1 T20.heap n0 z20 ⟨Bq20.1, Bq20.2.1, Bq20.2.2.1, Bq20.2.2.2.1, Bq20.2.2.2.2.1, Bq20.2.2.2.2.2⟩ (by simp only [List.length_append, List.length_nil, List.length_cons, List.nil_append]; omega) O2 P5 ((((((X00.ext E1).keep Kq4 (allS (Nat.le_trans Z0 (Nat.le_trans K0.1 (Nat.le_of_eq g1.symm))) all0)).keep Kq9 (allS (Nat.le_trans Z0 (Nat.le_trans K0.1 (Nat.le_of_eq g1.symm))) (allS (Nat.le_trans Z0 (Nat.le_trans K1.1 gt4)) all0))).ext E11).keep Kq15 (allS (Nat.le_trans Z0 (Nat.le_trans K0.1 (Nat.le_of_eq g1.symm))) (allS (Nat.le_trans Z0 (Nat.le_trans K1.1 gt4)) all0))).keep Kq20 (allS (Nat.le_trans Z0 (Nat.le_trans K0.1 (Nat.le_of_eq g1.symm))) (allS (Nat.le_trans Z0 (Nat.le_trans K1.1 gt4)) all0)))) hZ11 (ww hw 141 rfl) (ww hw 73 rfl) (by decide) (by decide)) q22a q22c (g := (mkF m 26 #[vr rx] [(.ref b1)])) rfl (by rw [hml]; rfl) (Steps.refl _) (argsL := []) (rest := []) (lenOf pd_ocLjavaslangsStringe rfl) rfl (by show 2 * 0 + _ ≤ _; exact Nat.le_of_eq rfl) (hb hby D30_26) (fun _ _ => ⟨rfl, rfl, (by decide : 4 + 2 ≤ _), (by decide : 28 + 20 ≤ _)⟩)
  dsimp only [Pt.U, Pt.locs, Pt.cells, Pt.slots] at X22 l22 y22 z22 st22 hQ22
  subst l22 y22 z22
  obtain ⟨x22, t22, kb22, rfl, Nq22, Kq22, gx22, So22⟩ := hQ22
  have c23 : SS p e below S0 (T22.setTop (mkF m 29 #[vr rx] [(.ref x22)])) := c21.trans (st22)
  have N22 := Fr.app N20 Nq22
  have z22 : n0 ≤ T22.heap.size := Nat.le_trans z20 Kq22.1
  have K22 := K20.trans Kq22 all0
  have r22 : CHr Z EL T11.vm T20.heap T11.vm T22.heap := CHr.keep Kq22 sf0 R20.1
  have R22 := R20.trans r22
  obtain ⟨fs, hr, hrun, hended, hW⟩ := X22.leaveW hS11 (Nat.le_trans hk11 (Nat.le_trans (Nat.le_trans Kq15.1 Kq20.1) Kq22.1)) (v := some (.ref x22)) (fun h => by rw [Bd.returns] at h; cases h)
  refine ⟨_, _, c23.trans (retOut X22 hx Bd.returns rfl (Or.inr (Or.inr (Or.inr (Or.inr ⟨rfl, rfl, rfl⟩)))) (hb hby D30_29) hr), hrun, hended, _, _, rfl, ?_, ?_, hW.1, hW.2.1, hW.2.2.1, hW.2.2.2.mono (by first | decide | exact Nat.le_of_ble_eq_true rfl) (by first | decide | exact Nat.le_of_ble_eq_true rfl)⟩
  · show QMkS Z ((([] ++ cs) ++ [46]) ++ ds : List Int32) h0 n0 _ T22.heap _
    exact ⟨_, _, _, rfl, N22, K22, (Nat.le_trans K20.1 gx22), So22⟩
  · show CHr Z EL s.vm s.heap T22.vm T22.heap
    rw [hh]; exact R22.trans (CHv.at X22 hZ11 hEL R22.1)

theorem D31_0 : decode method_4_code 0 = .ok (.iload_n 1, 1) := by decide +kernel
theorem D31_1 : decode method_4_code 1 = .ok (.iload_n 2, 1) := by decide +kernel
theorem D31_2 : decode method_4_code 2 = .ok (.if_icmp .lt 5, 3) := by decide +kernel
theorem D31_7 : decode method_4_code 7 = .ok (.iload_n 1, 1) := by decide +kernel
theorem D31_8 : decode method_4_code 8 = .ok (.iload_n 3, 1) := by decide +kernel
theorem D31_9 : decode method_4_code 9 = .ok (.if_icmp .ge 19, 3) := by decide +kernel
theorem D31_12 : decode method_4_code 12 = .ok (.iload_n 1, 1) := by decide +kernel
theorem D31_13 : decode method_4_code 13 = .ok (.ifCond .ne 8, 3) := by decide +kernel
theorem D31_16 : decode method_4_code 16 = .ok (.iload 4, 2) := by decide +kernel
theorem D31_18 : decode method_4_code 18 = .ok (.goto 5, 3) := by decide +kernel
theorem D31_23 : decode method_4_code 23 = .ok (.istore 8, 2) := by decide +kernel
theorem D31_25 : decode method_4_code 25 = .ok (.goto 36, 3) := by decide +kernel
theorem D31_21 : decode method_4_code 21 = .ok (.iload 5, 2) := by decide +kernel
theorem D31_28 : decode method_4_code 28 = .ok (.iload_n 1, 1) := by decide +kernel
theorem D31_29 : decode method_4_code 29 = .ok (.iload_n 3, 1) := by decide +kernel
theorem D31_30 : decode method_4_code 30 = .ok (.if_icmp .ne 10, 3) := by decide +kernel
theorem D31_33 : decode method_4_code 33 = .ok (.bipush 46, 2) := by decide +kernel
theorem D31_35 : decode method_4_code 35 = .ok (.istore 8, 2) := by decide +kernel
theorem D31_37 : decode method_4_code 37 = .ok (.goto 24, 3) := by decide +kernel
theorem D31_40 : decode method_4_code 40 = .ok (.iload_n 1, 1) := by decide +kernel
theorem D31_41 : decode method_4_code 41 = .ok (.iload_n 3, 1) := by decide +kernel
theorem D31_42 : decode method_4_code 42 = .ok (.isub, 1) := by decide +kernel
theorem D31_43 : decode method_4_code 43 = .ok (.iconst 1, 1) := by decide +kernel
theorem D31_44 : decode method_4_code 44 = .ok (.isub, 1) := by decide +kernel
theorem D31_45 : decode method_4_code 45 = .ok (.istore 9, 2) := by decide +kernel
theorem D31_47 : decode method_4_code 47 = .ok (.iload 9, 2) := by decide +kernel
theorem D31_49 : decode method_4_code 49 = .ok (.ifCond .ne 8, 3) := by decide +kernel
theorem D31_52 : decode method_4_code 52 = .ok (.iload 6, 2) := by decide +kernel
theorem D31_54 : decode method_4_code 54 = .ok (.goto 5, 3) := by decide +kernel
theorem D31_59 : decode method_4_code 59 = .ok (.istore 8, 2) := by decide +kernel
theorem D31_57 : decode method_4_code 57 = .ok (.iload 7, 2) := by decide +kernel
theorem D31_61 : decode method_4_code 61 = .ok (.aload_n 0, 1) := by decide +kernel
theorem D31_62 : decode method_4_code 62 = .ok (.iload_n 1, 1) := by decide +kernel
theorem pd_oIcC : parseMethodDescriptor "(I)C" = some ⟨[.int], some .char⟩ := by decide +kernel
theorem D31_63 : decode method_4_code 63 = .ok (.invokevirtual 36, 3) := by decide +kernel
theorem D31_66 : decode method_4_code 66 = .ok (.iload 8, 2) := by decide +kernel
theorem D31_68 : decode method_4_code 68 = .ok (.if_icmp .ne 7, 3) := by decide +kernel
theorem D31_71 : decode method_4_code 71 = .ok (.iconst 1, 1) := by decide +kernel
theorem D31_72 : decode method_4_code 72 = .ok (.goto 4, 3) := by decide +kernel
theorem D31_76 : decode method_4_code 76 = .ok (.ireturn, 1) := by decide +kernel
theorem D31_5 : decode method_4_code 5 = .ok (.iconst 1, 1) := by decide +kernel
theorem D31_6 : decode method_4_code 6 = .ok (.ireturn, 1) := by decide +kernel
theorem ef_rmAt (m : MethodId) (x0 : Addr) (x1 : Int32) (x2 : Int32) (x3 : Int32) (x4 : Int32) (x5 : Int32) (x6 : Int32) (x7 : Int32) : entryFrame m #[(.ref x0), (.int x1), (.int x2), (.int x3), (.int x4), (.int x5), (.int x6), (.int x7)] 10 = mkF m 0 #[.val (.ref x0), .val (.int x1), .val (.int x2), .val (.int x3), .val (.int x4), .val (.int x5), .val (.int x6), .val (.int x7), .unset, .unset] [] := by first | (simp [entryFrame, mkF, argsToLocals, Value.category]; done) | rfl
set_option maxRecDepth 65536 in
set_option maxHeartbeats 40000000 in
theorem rmAt (l : Launch) (Z : State) (a0 : Array Value) (hw : ∀ d ∈ tables_1, d.before a0 Z = true) (ws : List Jvm.Cond) (rx tx : Addr) (kx : ClassId) (cs : List Int32) (i n sl s0 s1 m0 m1 : Int32) (k : Nat) (G1 : Int32) (G3 : Value) (h0 : Heap) (n0 : Nat) (Z0 : n0 ≤ h0.size) (Sx : OStr Z h0 rx tx kx cs) (hik : i = Int32.ofNat k) (hk : i < n → k < cs.length ∧ cs.getD k 0 = (if i < sl then (if i = (0 : Int32) then s0 else s1) else (if i = sl then (46 : Int32) else (if ((i - sl) - (1 : Int32)) = (0 : Int32) then m0 else m1)))) (O2 : Sta Z Z.heap "java/lang/String" "COMPACT_STRINGS" "Z" (.int G1)) (P5 : ¬ G1 = 0) (X00 : Old Z n0 h0) (O4 : Sta Z Z.heap "jdk/internal/util/Preconditions" "SIOOBE_FORMATTER" "Ljava/util/function/BiFunction;" G3) (rG3 : G3.isRef = true) :
    MetFree l (⟨"com/example/evenkeel/evenkeel/RouteToStringPinLaw", "at", "(Ljava/lang/String;IIICCCC)Z"⟩ : MethodName) (head1 (Jvm.Cond.code (⟨"com/example/evenkeel/evenkeel/RouteToStringPinLaw", "at", "(Ljava/lang/String;IIICCCC)Z"⟩ : MethodName) method_4_code 10 (some .boolean) :: ws) ({ frames := 4, cells := 0, slots := 0, locals := 53 } : Room)) (fun aa U => aa = #[(.ref rx), (.int i), (.int n), (.int sl), (.int s0), (.int s1), (.int m0), (.int m1)] ∧ Z.Warmed39 U.vm ∧ U.heap = h0) (fun _ _ _ _ _ => True) (fun _ U o U' => ∃ v L, o = .returned v ∧ QInt Z 1 h0 n0 v U'.heap L ∧ FrameEnd U o U' L ({ frames := 4, cells := 0, slots := 0, locals := 53 } : Room).cells ({ frames := 4, cells := 0, slots := 0, locals := 53 } : Room).slots) := by
  refine MetFree.of_bodySF (plainFor_of_name pn_com_example_evenkeel_evenkeel_RouteToStringPinLaw) hisR ?_
  intro p e s m args below meth c s₁ Bd hml0 hP hK
  obtain ⟨rfl, hZ, hh⟩ := hP
  have hx := Bd.exec
  have hby := Bd.bytes
  have hml : c.maxLocals = 10 := hml0
  have hown : s.vm.findClass "com/example/evenkeel/evenkeel/RouteToStringPinLaw" = some m.cls := findClass_of_methodNamed Bd.named
  have hnm := (name_of_methodNamed Bd.named Bd.method).1
  have X0 : Stand p l e ({ frames := 4, cells := 0, slots := 0, locals := 53 } : Room) s m #[(.ref rx), (.int i), (.int n), (.int sl), (.int s0), (.int s1), (.int m0), (.int m1)] below meth c s₁ [] 0 0 := Stand.of_body Bd
  have e0 : s₁.heap = h0 := by rw [← hh, Bd.state]; rfl
  have N0 := Fr.nil n0
  have K0 := Keep.refl h0 []
  obtain ⟨S0, hS0⟩ : ∃ z, z = s₁.setTop (entryFrame m #[(.ref rx), (.int i), (.int n), (.int sl), (.int s0), (.int s1), (.int m0), (.int m1)] 10) := ⟨_, rfl⟩
  rw [← hS0]
  have c0 : SS p e below S0 (s₁.setTop (mkF m 0 #[vr rx, vi i, vi n, vi sl, vi s0, vi s1, vi m0, vi m1, .unset, .unset] [])) := by
    rw [hS0]; exact castTop (ef_rmAt m rx i n sl s0 s1 m0 m1) (Steps.refl _)
  have c1 : SS p e below S0 (s₁.setTop (mkF m 2 #[vr rx, vi i, vi n, vi sl, vi s0, vi s1, vi m0, vi m1, .unset, .unset] [(.int n), (.int i)])) := c0.trans (by
    show SS p e below (s₁.setTop (mkF m 0 #[vr rx, vi i, vi n, vi sl, vi s0, vi s1, vi m0, vi m1, .unset, .unset] [])) _
    refine XS.iloadN X0.here hx rfl (hb hby D31_0) rfl ?_
    refine XS.iloadN X0.here hx rfl (hb hby D31_1) rfl ?_
    exact Steps.refl _)
  by_cases hq2 : i < n
  · have c3 : SS p e below S0 (s₁.setTop (mkF m 9 #[vr rx, vi i, vi n, vi sl, vi s0, vi s1, vi m0, vi m1, .unset, .unset] [(.int sl), (.int i)])) := c1.trans (by
      show SS p e below (s₁.setTop (mkF m 2 #[vr rx, vi i, vi n, vi sl, vi s0, vi s1, vi m0, vi m1, .unset, .unset] [(.int n), (.int i)])) _
      refine XS.icmpYes X0.here hx rfl (pc0 := 2) (pc' := 7) rfl (hb hby D31_2) rfl (tlt hq2).1 (by decide) (by decide) ?_
      refine XS.iloadN X0.here hx rfl (hb hby D31_7) rfl ?_
      refine XS.iloadN X0.here hx rfl (hb hby D31_8) rfl ?_
      exact Steps.refl _)
    obtain ⟨ee, o5, T6, l6, hee, ho5, N6, X6, e6, c6⟩ : ∃ (ee : Int32) (o5 : Slot) (T : State) (locs : List Loc), ee = (if i < sl then (if i = (0 : Int32) then s0 else s1) else (if i = sl then (46 : Int32) else (if ((i - sl) - (1 : Int32)) = (0 : Int32) then m0 else m1))) ∧ (o5 = .unset ∨ ∃ w, o5 = .val w ∧ w.category = 1) ∧ Fr n0 locs ∧ Stand p l e ({ frames := 4, cells := 0, slots := 0, locals := 53 } : Room) s m #[(.ref rx), (.int i), (.int n), (.int sl), (.int s0), (.int s1), (.int m0), (.int m1)] below meth c T locs 0 0 ∧ T.heap = h0 ∧ SS p e below S0 (T.setTop (mkF m 61 #[vr rx, vi i, vi n, vi sl, vi s0, vi s1, vi m0, vi m1, vi ee, o5] [])) := by
      by_cases hq7 : i < sl
      · have c8 : SS p e below S0 (s₁.setTop (mkF m 13 #[vr rx, vi i, vi n, vi sl, vi s0, vi s1, vi m0, vi m1, .unset, .unset] [(.int i)])) := c3.trans (by
          show SS p e below (s₁.setTop (mkF m 9 #[vr rx, vi i, vi n, vi sl, vi s0, vi s1, vi m0, vi m1, .unset, .unset] [(.int sl), (.int i)])) _
          refine XS.icmpNo X0.here hx rfl (hb hby D31_9) rfl (tlt hq7).2.1 ?_
          refine XS.iloadN X0.here hx rfl (hb hby D31_12) rfl ?_
          exact Steps.refl _)
        by_cases hq9 : i = (0 : Int32)
        · have c10 : SS p e below S0 (s₁.setTop (mkF m 61 #[vr rx, vi i, vi n, vi sl, vi s0, vi s1, vi m0, vi m1, vi s0, .unset] [])) := c8.trans (by
            show SS p e below (s₁.setTop (mkF m 13 #[vr rx, vi i, vi n, vi sl, vi s0, vi s1, vi m0, vi m1, .unset, .unset] [(.int i)])) _
            refine XS.ifNo X0.here hx rfl (hb hby D31_13) rfl ((if0 _ _).trans (teq hq9).2) ?_
            refine XS.iload X0.here hx rfl (hb hby D31_16) rfl ?_
            refine XS.goto X0.here hx rfl (pc0 := 18) (pc' := 23) rfl (hb hby D31_18) (by decide) (by decide) ?_
            refine XS.istore X0.here hx rfl (hb hby D31_23) rfl (l' := #[vr rx, vi i, vi n, vi sl, vi s0, vi s1, vi m0, vi m1, vi s0, .unset]) rfl ?_
            refine XS.goto X0.here hx rfl (pc0 := 25) (pc' := 61) rfl (hb hby D31_25) (by decide) (by decide) ?_
            exact Steps.refl _)
          exact ⟨_, _, s₁, _, (by rw [if_pos hq7, if_pos hq9]), (Or.inl rfl), N0, X0, e0, c10⟩
        · have c11 : SS p e below S0 (s₁.setTop (mkF m 61 #[vr rx, vi i, vi n, vi sl, vi s0, vi s1, vi m0, vi m1, vi s1, .unset] [])) := c8.trans (by
            show SS p e below (s₁.setTop (mkF m 13 #[vr rx, vi i, vi n, vi sl, vi s0, vi s1, vi m0, vi m1, .unset, .unset] [(.int i)])) _
            refine XS.ifYes X0.here hx rfl (pc0 := 13) (pc' := 21) rfl (hb hby D31_13) rfl ((if0 _ _).trans (feq hq9).2) (by decide) (by decide) ?_
            refine XS.iload X0.here hx rfl (hb hby D31_21) rfl ?_
            refine XS.istore X0.here hx rfl (hb hby D31_23) rfl (l' := #[vr rx, vi i, vi n, vi sl, vi s0, vi s1, vi m0, vi m1, vi s1, .unset]) rfl ?_
            refine XS.goto X0.here hx rfl (pc0 := 25) (pc' := 61) rfl (hb hby D31_25) (by decide) (by decide) ?_
            exact Steps.refl _)
          exact ⟨_, _, s₁, _, (by rw [if_pos hq7, if_neg hq9]), (Or.inl rfl), N0, X0, e0, c11⟩
      · have c12 : SS p e below S0 (s₁.setTop (mkF m 30 #[vr rx, vi i, vi n, vi sl, vi s0, vi s1, vi m0, vi m1, .unset, .unset] [(.int sl), (.int i)])) := c3.trans (by
          show SS p e below (s₁.setTop (mkF m 9 #[vr rx, vi i, vi n, vi sl, vi s0, vi s1, vi m0, vi m1, .unset, .unset] [(.int sl), (.int i)])) _
          refine XS.icmpYes X0.here hx rfl (pc0 := 9) (pc' := 28) rfl (hb hby D31_9) rfl (flt hq7).2.1 (by decide) (by decide) ?_
          refine XS.iloadN X0.here hx rfl (hb hby D31_28) rfl ?_
          refine XS.iloadN X0.here hx rfl (hb hby D31_29) rfl ?_
          exact Steps.refl _)
        by_cases hq13 : i = sl
        · have c14 : SS p e below S0 (s₁.setTop (mkF m 61 #[vr rx, vi i, vi n, vi sl, vi s0, vi s1, vi m0, vi m1, vi 46, .unset] [])) := c12.trans (by
            show SS p e below (s₁.setTop (mkF m 30 #[vr rx, vi i, vi n, vi sl, vi s0, vi s1, vi m0, vi m1, .unset, .unset] [(.int sl), (.int i)])) _
            refine XS.icmpNo X0.here hx rfl (hb hby D31_30) rfl (teq hq13).2 ?_
            refine XS.bipush X0.here hx rfl (hb hby D31_33) ?_
            refine XS.istore X0.here hx rfl (hb hby D31_35) rfl (l' := #[vr rx, vi i, vi n, vi sl, vi s0, vi s1, vi m0, vi m1, vi 46, .unset]) rfl ?_
            refine XS.goto X0.here hx rfl (pc0 := 37) (pc' := 61) rfl (hb hby D31_37) (by decide) (by decide) ?_
            exact Steps.refl _)
          exact ⟨_, _, s₁, _, (by rw [if_neg hq7, if_pos hq13]), (Or.inl rfl), N0, X0, e0, c14⟩
        · have c15 : SS p e below S0 (s₁.setTop (mkF m 49 #[vr rx, vi i, vi n, vi sl, vi s0, vi s1, vi m0, vi m1, .unset, vi ((i - sl) - (1 : Int32))] [(.int ((i - sl) - (1 : Int32)))])) := c12.trans (by
            show SS p e below (s₁.setTop (mkF m 30 #[vr rx, vi i, vi n, vi sl, vi s0, vi s1, vi m0, vi m1, .unset, .unset] [(.int sl), (.int i)])) _
            refine XS.icmpYes X0.here hx rfl (pc0 := 30) (pc' := 40) rfl (hb hby D31_30) rfl (feq hq13).2 (by decide) (by decide) ?_
            refine XS.iloadN X0.here hx rfl (hb hby D31_40) rfl ?_
            refine XS.iloadN X0.here hx rfl (hb hby D31_41) rfl ?_
            refine XS.isub X0.here hx rfl (hb hby D31_42) rfl ?_
            refine XS.iconst X0.here hx rfl (hb hby D31_43) ?_
            refine XS.isub X0.here hx rfl (hb hby D31_44) rfl ?_
            refine XS.istore X0.here hx rfl (hb hby D31_45) rfl (l' := #[vr rx, vi i, vi n, vi sl, vi s0, vi s1, vi m0, vi m1, .unset, vi ((i - sl) - (1 : Int32))]) rfl ?_
            refine XS.iload X0.here hx rfl (hb hby D31_47) rfl ?_
            exact Steps.refl _)
          by_cases hq16 : ((i - sl) - (1 : Int32)) = (0 : Int32)
          · have c17 : SS p e below S0 (s₁.setTop (mkF m 61 #[vr rx, vi i, vi n, vi sl, vi s0, vi s1, vi m0, vi m1, vi m0, vi ((i - sl) - (1 : Int32))] [])) := c15.trans (by
              show SS p e below (s₁.setTop (mkF m 49 #[vr rx, vi i, vi n, vi sl, vi s0, vi s1, vi m0, vi m1, .unset, vi ((i - sl) - (1 : Int32))] [(.int ((i - sl) - (1 : Int32)))])) _
              refine XS.ifNo X0.here hx rfl (hb hby D31_49) rfl ((if0 _ _).trans (teq hq16).2) ?_
              refine XS.iload X0.here hx rfl (hb hby D31_52) rfl ?_
              refine XS.goto X0.here hx rfl (pc0 := 54) (pc' := 59) rfl (hb hby D31_54) (by decide) (by decide) ?_
              refine XS.istore X0.here hx rfl (hb hby D31_59) rfl (l' := #[vr rx, vi i, vi n, vi sl, vi s0, vi s1, vi m0, vi m1, vi m0, vi ((i - sl) - (1 : Int32))]) rfl ?_
              exact Steps.refl _)
            exact ⟨_, _, s₁, _, (by rw [if_neg hq7, if_neg hq13, if_pos hq16]), (Or.inr ⟨_, rfl, rfl⟩), N0, X0, e0, c17⟩
          · have c18 : SS p e below S0 (s₁.setTop (mkF m 61 #[vr rx, vi i, vi n, vi sl, vi s0, vi s1, vi m0, vi m1, vi m1, vi ((i - sl) - (1 : Int32))] [])) := c15.trans (by
              show SS p e below (s₁.setTop (mkF m 49 #[vr rx, vi i, vi n, vi sl, vi s0, vi s1, vi m0, vi m1, .unset, vi ((i - sl) - (1 : Int32))] [(.int ((i - sl) - (1 : Int32)))])) _
              refine XS.ifYes X0.here hx rfl (pc0 := 49) (pc' := 57) rfl (hb hby D31_49) rfl ((if0 _ _).trans (feq hq16).2) (by decide) (by decide) ?_
              refine XS.iload X0.here hx rfl (hb hby D31_57) rfl ?_
              refine XS.istore X0.here hx rfl (hb hby D31_59) rfl (l' := #[vr rx, vi i, vi n, vi sl, vi s0, vi s1, vi m0, vi m1, vi m1, vi ((i - sl) - (1 : Int32))]) rfl ?_
              exact Steps.refl _)
            exact ⟨_, _, s₁, _, (by rw [if_neg hq7, if_neg hq13, if_neg hq16]), (Or.inr ⟨_, rfl, rfl⟩), N0, X0, e0, c18⟩
    have c19 : SS p e below S0 (T6.setTop (mkF m 63 #[vr rx, vi i, vi n, vi sl, vi s0, vi s1, vi m0, vi m1, vi ee, o5] [(.int i), (.ref rx)])) := c6.trans (by
      show SS p e below (T6.setTop (mkF m 61 #[vr rx, vi i, vi n, vi sl, vi s0, vi s1, vi m0, vi m1, vi ee, o5] [])) _
      refine XS.aloadN X6.here hx rfl (hb hby D31_61) rfl rfl ?_
      refine XS.iloadN X6.here hx rfl (hb hby D31_62) rfl ?_
      exact Steps.refl _)
    have hch20 : ∀ d ∈ StrChars.Road.wordsChN, d.before a0 Z = true := fun d hd => hw d (own_in_wordsChN d hd)
    obtain ⟨cq21, kq21, q21a, q21b, q21c⟩ := isOf hZ e6 Sx.1
    obtain ⟨_, _, ⟨T21, L21, kk21, nn21⟩, -, X21, ⟨Lc21, hQ21, l21, y21, z21⟩, st21⟩ := X6.virtualBack hx (y := (⟨"java/lang/String", "charAt", "(I)C"⟩ : MethodName)) (z := (⟨"java/lang/String", "charAt", "(I)C"⟩ : MethodName)) hown (mvT hZ (ww hw 186 rfl)) (mvT hZ (ww hw 187 rfl)) (notFace_of_selects (args := #[]) (mvT hZ (ww hw 189 rfl))) (mvT hZ (ww hw 189 rfl)) (mvT hZ (ww hw 188 rfl)) (by decide) (StrChars.Road.chN (W := 0) hZ hch20 (kI := 4) (ww hw 6 rfl) Sx.1 Sx.2.1 Sx.2.2.1 Sx.2.2.2.1 Sx.cod (own_up _ Sx.2.2.2.2.1) (O2.ext X00.2) P5 (O4.ext X00.2) rG3 Sx.2.2.2.2.2 (i := k) (hk hq2).1 (j := i) hik (by decide) (by decide)) q21a q21c (g := (mkF m 63 #[vr rx, vi i, vi n, vi sl, vi s0, vi s1, vi m0, vi m1, vi ee, o5] [(.int i), (.ref rx)])) rfl (by rw [hml]; rfl) (Steps.refl _) (argsL := [(.int i)]) (rest := []) (lenOf pd_oIcC rfl) rfl (by show 2 * 0 + _ ≤ _; exact Nat.le_of_eq rfl) (hb hby D31_63) (fun _ _ => ⟨rfl, e6, (by decide : 0 + 0 ≤ _), (by decide : 0 + 0 ≤ _)⟩)
    dsimp only [Pt.U, Pt.locs, Pt.cells, Pt.slots] at X21 l21 y21 z21 st21 hQ21
    subst l21 y21 z21
    obtain ⟨rfl, Lq21, eq21⟩ := hQ21
    have c22 : SS p e below S0 (T21.setTop (mkF m 66 #[vr rx, vi i, vi n, vi sl, vi s0, vi s1, vi m0, vi m1, vi ee, o5] [(.int (cs.getD k 0))])) := c19.trans (st21)
    have N21 := Fr.app N6 (Lq21 ▸ Fr.nil n0)
    have c23 : SS p e below S0 (T21.setTop (mkF m 76 #[vr rx, vi i, vi n, vi sl, vi s0, vi s1, vi m0, vi m1, vi ee, o5] [(.int 1)])) := c22.trans (by
      show SS p e below (T21.setTop (mkF m 66 #[vr rx, vi i, vi n, vi sl, vi s0, vi s1, vi m0, vi m1, vi ee, o5] [(.int (cs.getD k 0))])) _
      refine XS.iload X21.here hx rfl (hb hby D31_66) rfl ?_
      refine XS.icmpNo X21.here hx rfl (hb hby D31_68) rfl (teq ((hk hq2).2.trans hee.symm)).2 ?_
      refine XS.iconst X21.here hx rfl (hb hby D31_71) ?_
      refine XS.goto X21.here hx rfl (pc0 := 72) (pc' := 76) rfl (hb hby D31_72) (by decide) (by decide) ?_
      exact Steps.refl _)
    obtain ⟨fs, hr, hrun, hended, hW, hsame⟩ := X21.leave (v := some (.int 1)) (fun h => by rw [Bd.returns] at h; cases h)
    refine ⟨_, _, c23.trans (retOut X21 hx Bd.returns rfl (Or.inl ⟨rfl, by simp, _, rfl⟩) (hb hby D31_76) hr), hrun, hended, _, _, rfl, ?_, ⟨_, rfl⟩, hW, hsame.mono (by first | decide | exact Nat.le_of_ble_eq_true rfl) (by first | decide | exact Nat.le_of_ble_eq_true rfl)⟩
    show QInt Z 1 h0 n0 _ T21.heap _
    rw [eq21]
    exact ⟨rfl, N21, rfl⟩
  · have c24 : SS p e below S0 (s₁.setTop (mkF m 6 #[vr rx, vi i, vi n, vi sl, vi s0, vi s1, vi m0, vi m1, .unset, .unset] [(.int 1)])) := c1.trans (by
      show SS p e below (s₁.setTop (mkF m 2 #[vr rx, vi i, vi n, vi sl, vi s0, vi s1, vi m0, vi m1, .unset, .unset] [(.int n), (.int i)])) _
      refine XS.icmpNo X0.here hx rfl (hb hby D31_2) rfl (flt hq2).1 ?_
      refine XS.iconst X0.here hx rfl (hb hby D31_5) ?_
      exact Steps.refl _)
    obtain ⟨fs, hr, hrun, hended, hW, hsame⟩ := X0.leave (v := some (.int 1)) (fun h => by rw [Bd.returns] at h; cases h)
    refine ⟨_, _, c24.trans (retOut X0 hx Bd.returns rfl (Or.inl ⟨rfl, by simp, _, rfl⟩) (hb hby D31_6) hr), hrun, hended, _, _, rfl, ?_, ⟨_, rfl⟩, hW, hsame.mono (by first | decide | exact Nat.le_of_ble_eq_true rfl) (by first | decide | exact Nat.le_of_ble_eq_true rfl)⟩
    show QInt Z 1 h0 n0 _ s₁.heap _
    rw [e0]
    exact ⟨rfl, N0, rfl⟩

def Q0 (Z : State) (h0 : Heap) (n0 : Nat) (v : Option Value) (h : Heap) (L : List Loc) : Prop := v = some (.int 1) ∧ Fr n0 L
theorem own_three {x : Int32} (h : ∃ a : Nat, a < 3 ∧ x = Int32.ofNat a) : x = 0 ∨ x = 1 ∨ x = 2 := by
  obtain ⟨a, ha, rfl⟩ := h
  rcases (by omega : a = 0 ∨ a = 1 ∨ a = 2) with rfl | rfl | rfl
  · exact Or.inl rfl
  · exact Or.inr (Or.inl rfl)
  · exact Or.inr (Or.inr rfl)
theorem own_mkl {l a b : Int32} (h : l = 0 ∨ l = 1 ∨ l = 2) : (own_mk l a b).length ≤ 2 := by
  rcases h with rfl | rfl | rfl <;> exact Nat.le_of_ble_eq_true rfl
theorem own_rl {sl ml s0 s1 m0 m1 : Int32} (h1 : sl = 0 ∨ sl = 1 ∨ sl = 2) (h2 : ml = 0 ∨ ml = 1 ∨ ml = 2) : Int32.ofNat ((([] ++ own_mk sl s0 s1) ++ [46]) ++ own_mk ml m0 m1 : List Int32).length = ((sl + (1 : Int32)) + ml) := by
  rcases h1 with rfl | rfl | rfl <;> rcases h2 with rfl | rfl | rfl <;> rfl
theorem own_at {sl ml s0 s1 m0 m1 nn : Int32} (h1 : sl = 0 ∨ sl = 1 ∨ sl = 2) (h2 : ml = 0 ∨ ml = 1 ∨ ml = 2) (hn : nn = ((sl + (1 : Int32)) + ml)) (k : Nat) (hk : k = 0 ∨ k = 1 ∨ k = 2 ∨ k = 3 ∨ k = 4) {i : Int32} (hi : i = Int32.ofNat k) : i < nn → k < ((([] ++ own_mk sl s0 s1) ++ [46]) ++ own_mk ml m0 m1 : List Int32).length ∧ ((([] ++ own_mk sl s0 s1) ++ [46]) ++ own_mk ml m0 m1 : List Int32).getD k 0 = (if i < sl then (if i = (0 : Int32) then s0 else s1) else (if i = sl then (46 : Int32) else (if ((i - sl) - (1 : Int32)) = (0 : Int32) then m0 else m1))) := by
  subst hn
  subst hi
  intro h
  rcases h1 with rfl | rfl | rfl <;> rcases h2 with rfl | rfl | rfl <;> rcases hk with rfl | rfl | rfl | rfl | rfl <;> first | exact absurd h (by decide) | exact ⟨Nat.le_of_ble_eq_true rfl, rfl⟩

theorem pd_oICCcLjavaslangsStringe : parseMethodDescriptor "(ICC)Ljava/lang/String;" = some ⟨[.int, .char, .char], some (.object "java/lang/String")⟩ := by decide +kernel
theorem pd_oLjavaslangsStringeLjavaslangsStringecV : parseMethodDescriptor "(Ljava/lang/String;Ljava/lang/String;)V" = some ⟨[(.object "java/lang/String"), (.object "java/lang/String")], none⟩ := by decide +kernel
theorem pd_oLjavaslangsStringeIIICCCCcZ : parseMethodDescriptor "(Ljava/lang/String;IIICCCC)Z" = some ⟨[(.object "java/lang/String"), .int, .int, .int, .char, .char, .char, .char], some .boolean⟩ := by decide +kernel
theorem ef_rm0 (m : MethodId) (x0 : Int32) (x1 : Int32) (x2 : Int32) (x3 : Int32) (x4 : Int32) : entryFrame m #[(.int x0), (.int x1), (.int x2), (.int x3), (.int x4)] maxLocals = mkF m 0 #[.val (.int x0), .val (.int x1), .val (.int x2), .val (.int x3), .val (.int x4), .unset, .unset, .unset, .unset, .unset, .unset, .unset, .unset, .unset, .unset] [] := by first | (simp [entryFrame, mkF, argsToLocals, Value.category, maxLocals]; done) | rfl
set_option maxRecDepth 65536 in
set_option maxHeartbeats 40000000 in
theorem rm0 (l : Launch) (Z : State) (a0 : Array Value) (hw : ∀ d ∈ tables_1, d.before a0 Z = true) (ws : List Jvm.Cond) (p0 p1 p2 p3 p4 : Int32) (G1 : Int32) (G3 : Value) (h0 : Heap) (n0 : Nat) (Z0 : n0 ≤ h0.size) (O2 : Sta Z Z.heap "java/lang/String" "COMPACT_STRINGS" "Z" (.int G1)) (P5 : ¬ G1 = 0) (X00 : Old Z n0 h0) (O4 : Sta Z Z.heap "jdk/internal/util/Preconditions" "SIOOBE_FORMATTER" "Ljava/util/function/BiFunction;" G3) (rG3 : G3.isRef = true) :
    MetFree l x (head1 (Jvm.Cond.code x code maxLocals ret :: ws) room_1) (fun aa U => aa = #[(.int p0), (.int p1), (.int p2), (.int p3), (.int p4)] ∧ Z.Warmed39 U.vm ∧ U.heap = h0 ∧ CHv Z EL U.vm h0) (fun _ _ _ _ _ => True) (fun _ U o U' => ∃ v L, o = .returned v ∧ Q0 Z  h0 n0 v U'.heap L ∧ CHr Z EL U.vm U.heap U'.vm U'.heap ∧ ReturnedEndW U o U' L room_1.cells room_1.slots) := by
  refine MetFree.of_bodySF (plainFor_of_name pn_com_example_evenkeel_evenkeel_RouteToStringPinLaw) hisR ?_
  intro p e s m args below meth c s₁ Bd hml0 hP hK
  obtain ⟨rfl, hZ, hh, hCH⟩ := hP
  have hx := Bd.exec
  have hby := Bd.bytes
  have hml : c.maxLocals = 15 := hml0
  have hown : s.vm.findClass "com/example/evenkeel/evenkeel/RouteToStringPinLaw" = some m.cls := findClass_of_methodNamed Bd.named
  have hnm := (name_of_methodNamed Bd.named Bd.method).1
  have X0 : Stand p l e room_1 s m #[(.int p0), (.int p1), (.int p2), (.int p3), (.int p4)] below meth c s₁ [] 0 0 := Stand.of_body Bd
  have e0 : s₁.heap = h0 := by rw [← hh, Bd.state]; rfl
  have N0 := Fr.nil n0
  have K0 := Keep.refl h0 []
  obtain ⟨S0, hS0⟩ : ∃ z, z = s₁.setTop (entryFrame m #[(.int p0), (.int p1), (.int p2), (.int p3), (.int p4)] maxLocals) := ⟨_, rfl⟩
  rw [← hS0]
  have c0 : SS p e below S0 (s₁.setTop (mkF m 0 #[vi p0, vi p1, vi p2, vi p3, vi p4, .unset, .unset, .unset, .unset, .unset, .unset, .unset, .unset, .unset, .unset] [])) := by
    rw [hS0]; exact castTop (ef_rm0 m p0 p1 p2 p3 p4) (Steps.refl _)
  have X0 : Stand p l e room_1 (s.setVm s.vm) m #[(.int p0), (.int p1), (.int p2), (.int p3), (.int p4)] below meth c s₁ [] 0 0 := X0
  have hS0 : s.Since s.vm 0 := own_since s
  have R0 : CHr Z EL s.vm h0 s.vm h0 := CHr.refl hCH
  have hEL := own_EW hw
  have hwS := own_strw hw
  have c1 : SS p e below S0 (s₁.setTop (mkF m 8 #[vi p0, vi p1, vi p2, vi p3, vi p4, vi ((p0 &&& (255 : Int32)).toUInt32.toUInt16.toUInt32.toInt32), .unset, .unset, .unset, .unset, .unset, .unset, .unset, .unset, .unset] [])) := c0.trans (by
    show SS p e below (s₁.setTop (mkF m 0 #[vi p0, vi p1, vi p2, vi p3, vi p4, .unset, .unset, .unset, .unset, .unset, .unset, .unset, .unset, .unset, .unset] [])) _
    refine XS.iloadN X0.here hx rfl (hb hby at_0) rfl ?_
    refine XS.sipush X0.here hx rfl (hb hby at_1) ?_
    refine XS.iand X0.here hx rfl (hb hby at_4) rfl ?_
    refine XS.i2c X0.here hx rfl (hb hby at_5) rfl ?_
    refine XS.istore X0.here hx rfl (hb hby at_6) rfl (l' := #[vi p0, vi p1, vi p2, vi p3, vi p4, vi ((p0 &&& (255 : Int32)).toUInt32.toUInt16.toUInt32.toInt32), .unset, .unset, .unset, .unset, .unset, .unset, .unset, .unset, .unset]) rfl ?_
    exact Steps.refl _)
  obtain ⟨s0, hs0, c2⟩ : ∃ z : Int32, z = ((p0 &&& (255 : Int32)).toUInt32.toUInt16.toUInt32.toInt32) ∧ SS p e below S0 (s₁.setTop (mkF m 8 #[vi p0, vi p1, vi p2, vi p3, vi p4, vi z, .unset, .unset, .unset, .unset, .unset, .unset, .unset, .unset, .unset] [])) := ⟨_, rfl, c1⟩
  have h8s0 : C8 s0 := hs0 ▸ own_c8m _
  have c3 : SS p e below S0 (s₁.setTop (mkF m 16 #[vi p0, vi p1, vi p2, vi p3, vi p4, vi s0, vi ((p1 &&& (255 : Int32)).toUInt32.toUInt16.toUInt32.toInt32), .unset, .unset, .unset, .unset, .unset, .unset, .unset, .unset] [])) := c2.trans (by
    show SS p e below (s₁.setTop (mkF m 8 #[vi p0, vi p1, vi p2, vi p3, vi p4, vi s0, .unset, .unset, .unset, .unset, .unset, .unset, .unset, .unset, .unset] [])) _
    refine XS.iloadN X0.here hx rfl (hb hby at_8) rfl ?_
    refine XS.sipush X0.here hx rfl (hb hby at_9) ?_
    refine XS.iand X0.here hx rfl (hb hby at_12) rfl ?_
    refine XS.i2c X0.here hx rfl (hb hby at_13) rfl ?_
    refine XS.istore X0.here hx rfl (hb hby at_14) rfl (l' := #[vi p0, vi p1, vi p2, vi p3, vi p4, vi s0, vi ((p1 &&& (255 : Int32)).toUInt32.toUInt16.toUInt32.toInt32), .unset, .unset, .unset, .unset, .unset, .unset, .unset, .unset]) rfl ?_
    exact Steps.refl _)
  obtain ⟨s1, hs1, c4⟩ : ∃ z : Int32, z = ((p1 &&& (255 : Int32)).toUInt32.toUInt16.toUInt32.toInt32) ∧ SS p e below S0 (s₁.setTop (mkF m 16 #[vi p0, vi p1, vi p2, vi p3, vi p4, vi s0, vi z, .unset, .unset, .unset, .unset, .unset, .unset, .unset, .unset] [])) := ⟨_, rfl, c3⟩
  have h8s1 : C8 s1 := hs1 ▸ own_c8m _
  have c5 : SS p e below S0 (s₁.setTop (mkF m 24 #[vi p0, vi p1, vi p2, vi p3, vi p4, vi s0, vi s1, vi ((p2 &&& (255 : Int32)).toUInt32.toUInt16.toUInt32.toInt32), .unset, .unset, .unset, .unset, .unset, .unset, .unset] [])) := c4.trans (by
    show SS p e below (s₁.setTop (mkF m 16 #[vi p0, vi p1, vi p2, vi p3, vi p4, vi s0, vi s1, .unset, .unset, .unset, .unset, .unset, .unset, .unset, .unset] [])) _
    refine XS.iloadN X0.here hx rfl (hb hby at_16) rfl ?_
    refine XS.sipush X0.here hx rfl (hb hby at_17) ?_
    refine XS.iand X0.here hx rfl (hb hby at_20) rfl ?_
    refine XS.i2c X0.here hx rfl (hb hby at_21) rfl ?_
    refine XS.istore X0.here hx rfl (hb hby at_22) rfl (l' := #[vi p0, vi p1, vi p2, vi p3, vi p4, vi s0, vi s1, vi ((p2 &&& (255 : Int32)).toUInt32.toUInt16.toUInt32.toInt32), .unset, .unset, .unset, .unset, .unset, .unset, .unset]) rfl ?_
    exact Steps.refl _)
  obtain ⟨m0, hm0, c6⟩ : ∃ z : Int32, z = ((p2 &&& (255 : Int32)).toUInt32.toUInt16.toUInt32.toInt32) ∧ SS p e below S0 (s₁.setTop (mkF m 24 #[vi p0, vi p1, vi p2, vi p3, vi p4, vi s0, vi s1, vi z, .unset, .unset, .unset, .unset, .unset, .unset, .unset] [])) := ⟨_, rfl, c5⟩
  have h8m0 : C8 m0 := hm0 ▸ own_c8m _
  have c7 : SS p e below S0 (s₁.setTop (mkF m 32 #[vi p0, vi p1, vi p2, vi p3, vi p4, vi s0, vi s1, vi m0, vi ((p3 &&& (255 : Int32)).toUInt32.toUInt16.toUInt32.toInt32), .unset, .unset, .unset, .unset, .unset, .unset] [])) := c6.trans (by
    show SS p e below (s₁.setTop (mkF m 24 #[vi p0, vi p1, vi p2, vi p3, vi p4, vi s0, vi s1, vi m0, .unset, .unset, .unset, .unset, .unset, .unset, .unset] [])) _
    refine XS.iloadN X0.here hx rfl (hb hby at_24) rfl ?_
    refine XS.sipush X0.here hx rfl (hb hby at_25) ?_
    refine XS.iand X0.here hx rfl (hb hby at_28) rfl ?_
    refine XS.i2c X0.here hx rfl (hb hby at_29) rfl ?_
    refine XS.istore X0.here hx rfl (hb hby at_30) rfl (l' := #[vi p0, vi p1, vi p2, vi p3, vi p4, vi s0, vi s1, vi m0, vi ((p3 &&& (255 : Int32)).toUInt32.toUInt16.toUInt32.toInt32), .unset, .unset, .unset, .unset, .unset, .unset]) rfl ?_
    exact Steps.refl _)
  obtain ⟨m1, hm1, c8⟩ : ∃ z : Int32, z = ((p3 &&& (255 : Int32)).toUInt32.toUInt16.toUInt32.toInt32) ∧ SS p e below S0 (s₁.setTop (mkF m 32 #[vi p0, vi p1, vi p2, vi p3, vi p4, vi s0, vi s1, vi m0, vi z, .unset, .unset, .unset, .unset, .unset, .unset] [])) := ⟨_, rfl, c7⟩
  have h8m1 : C8 m1 := hm1 ▸ own_c8m _
  have c9 : SS p e below S0 (s₁.setTop (mkF m 41 #[vi p0, vi p1, vi p2, vi p3, vi p4, vi s0, vi s1, vi m0, vi m1, vi ((p4 &&& (2147483647 : Int32)) % (3 : Int32)), .unset, .unset, .unset, .unset, .unset] [])) := c8.trans (by
    show SS p e below (s₁.setTop (mkF m 32 #[vi p0, vi p1, vi p2, vi p3, vi p4, vi s0, vi s1, vi m0, vi m1, .unset, .unset, .unset, .unset, .unset, .unset] [])) _
    refine XS.iload X0.here hx rfl (hb hby at_32) rfl ?_
    show SS p e below (s₁.setTop (mkF m 34 #[vi p0, vi p1, vi p2, vi p3, vi p4, vi s0, vi s1, vi m0, vi m1, .unset, .unset, .unset, .unset, .unset, .unset] [(.int p4)])) _
    refine X0.ldcInt hx hown (mvT hZ (ww hw 0 rfl)) (g := (mkF m 34 #[vi p0, vi p1, vi p2, vi p3, vi p4, vi s0, vi s1, vi m0, vi m1, .unset, .unset, .unset, .unset, .unset, .unset] [(.int p4)])) rfl (hb hby at_34) _ ?_
    refine XS.iand X0.here hx rfl (hb hby at_36) rfl ?_
    refine XS.iconst X0.here hx rfl (hb hby at_37) ?_
    show SS p e below (s₁.setTop (mkF m 38 #[vi p0, vi p1, vi p2, vi p3, vi p4, vi s0, vi s1, vi m0, vi m1, .unset, .unset, .unset, .unset, .unset, .unset] [(.int 3), (.int (p4 &&& (2147483647 : Int32)))])) _
    refine iremM (g := (mkF m 38 #[vi p0, vi p1, vi p2, vi p3, vi p4, vi s0, vi s1, vi m0, vi m1, .unset, .unset, .unset, .unset, .unset, .unset] [(.int 3), (.int (p4 &&& (2147483647 : Int32)))])) X0 hx rfl (hb hby at_38) rfl (by decide) ?_
    refine XS.istore X0.here hx rfl (hb hby at_39) rfl (l' := #[vi p0, vi p1, vi p2, vi p3, vi p4, vi s0, vi s1, vi m0, vi m1, vi ((p4 &&& (2147483647 : Int32)) % (3 : Int32)), .unset, .unset, .unset, .unset, .unset]) rfl ?_
    exact Steps.refl _)
  obtain ⟨sl, hsl, c10⟩ : ∃ z : Int32, z = ((p4 &&& (2147483647 : Int32)) % (3 : Int32)) ∧ SS p e below S0 (s₁.setTop (mkF m 41 #[vi p0, vi p1, vi p2, vi p3, vi p4, vi s0, vi s1, vi m0, vi m1, vi z, .unset, .unset, .unset, .unset, .unset] [])) := ⟨_, rfl, c9⟩
  have l3sl := own_three (hsl ▸ own_rem31 _ (m := 3) (by decide) (by decide))
  have c11 : SS p e below S0 (s₁.setTop (mkF m 53 #[vi p0, vi p1, vi p2, vi p3, vi p4, vi s0, vi s1, vi m0, vi m1, vi sl, .val (.int ((((p4.toUInt32 >>> ((8 : Int32) &&& 31).toUInt32).toInt32) &&& (2147483647 : Int32)) % (3 : Int32))), .unset, .unset, .unset, .unset] [])) := c10.trans (by
    show SS p e below (s₁.setTop (mkF m 41 #[vi p0, vi p1, vi p2, vi p3, vi p4, vi s0, vi s1, vi m0, vi m1, vi sl, .unset, .unset, .unset, .unset, .unset] [])) _
    refine XS.iload X0.here hx rfl (hb hby at_41) rfl ?_
    refine XS.bipush X0.here hx rfl (hb hby at_43) ?_
    refine XS.iushr X0.here hx rfl (hb hby at_45) rfl ?_
    show SS p e below (s₁.setTop (mkF m 46 #[vi p0, vi p1, vi p2, vi p3, vi p4, vi s0, vi s1, vi m0, vi m1, vi sl, .unset, .unset, .unset, .unset, .unset] [(.int ((p4.toUInt32 >>> ((8 : Int32) &&& 31).toUInt32).toInt32))])) _
    refine X0.ldcInt hx hown (mvT hZ (ww hw 0 rfl)) (g := (mkF m 46 #[vi p0, vi p1, vi p2, vi p3, vi p4, vi s0, vi s1, vi m0, vi m1, vi sl, .unset, .unset, .unset, .unset, .unset] [(.int ((p4.toUInt32 >>> ((8 : Int32) &&& 31).toUInt32).toInt32))])) rfl (hb hby at_46) _ ?_
    refine XS.iand X0.here hx rfl (hb hby at_48) rfl ?_
    refine XS.iconst X0.here hx rfl (hb hby at_49) ?_
    show SS p e below (s₁.setTop (mkF m 50 #[vi p0, vi p1, vi p2, vi p3, vi p4, vi s0, vi s1, vi m0, vi m1, vi sl, .unset, .unset, .unset, .unset, .unset] [(.int 3), (.int (((p4.toUInt32 >>> ((8 : Int32) &&& 31).toUInt32).toInt32) &&& (2147483647 : Int32)))])) _
    refine iremM (g := (mkF m 50 #[vi p0, vi p1, vi p2, vi p3, vi p4, vi s0, vi s1, vi m0, vi m1, vi sl, .unset, .unset, .unset, .unset, .unset] [(.int 3), (.int (((p4.toUInt32 >>> ((8 : Int32) &&& 31).toUInt32).toInt32) &&& (2147483647 : Int32)))])) X0 hx rfl (hb hby at_50) rfl (by decide) ?_
    refine XS.istore X0.here hx rfl (hb hby at_51) rfl (l' := #[vi p0, vi p1, vi p2, vi p3, vi p4, vi s0, vi s1, vi m0, vi m1, vi sl, .val (.int ((((p4.toUInt32 >>> ((8 : Int32) &&& 31).toUInt32).toInt32) &&& (2147483647 : Int32)) % (3 : Int32))), .unset, .unset, .unset, .unset]) rfl ?_
    exact Steps.refl _)
  obtain ⟨mm, hmm, c12⟩ : ∃ z : Int32, z = ((((p4.toUInt32 >>> ((8 : Int32) &&& 31).toUInt32).toInt32) &&& (2147483647 : Int32)) % (3 : Int32)) ∧ SS p e below S0 (s₁.setTop (mkF m 53 #[vi p0, vi p1, vi p2, vi p3, vi p4, vi s0, vi s1, vi m0, vi m1, vi sl, vi z, .unset, .unset, .unset, .unset] [])) := ⟨_, rfl, c11⟩
  have l3mm := own_three (hmm ▸ own_rem31 _ (m := 3) (by decide) (by decide))
  have c13 : SS p e below S0 (s₁.setTop (mkF m 59 #[vi p0, vi p1, vi p2, vi p3, vi p4, vi s0, vi s1, vi m0, vi m1, vi sl, vi mm, .unset, .unset, .unset, .unset] [(.int s1), (.int s0), (.int sl)])) := c12.trans (by
    show SS p e below (s₁.setTop (mkF m 53 #[vi p0, vi p1, vi p2, vi p3, vi p4, vi s0, vi s1, vi m0, vi m1, vi sl, vi mm, .unset, .unset, .unset, .unset] [])) _
    refine XS.iload X0.here hx rfl (hb hby at_53) rfl ?_
    refine XS.iload X0.here hx rfl (hb hby at_55) rfl ?_
    refine XS.iload X0.here hx rfl (hb hby at_57) rfl ?_
    exact Steps.refl _)
  obtain ⟨_, _, ⟨T14, L14, kk14, nn14⟩, -, Xx14, hSx14, hgx14, ⟨Lc14, hQ14, l14, y14, z14, r14⟩, st14⟩ := callSS X0 hx (y := (⟨"com/example/evenkeel/evenkeel/RouteToStringPinLaw", "mk", "(ICC)Ljava/lang/String;"⟩ : MethodName)) hown (mvT hZ (ww hw 1 rfl)) (mvT hZ (ww hw 2 rfl)) (mvT hZ (ww hw 3 rfl)) (mvT hZ (ww hw 4 rfl)) (by decide) (own_backG (W := 0) (rmMk l Z a0 hw [] sl s0 s1 G1 h0 n0 Z0 h8s0 h8s1 O2 P5 X00) hZ (ww hw 4 rfl) (ww hw 3 rfl) (by decide) (by decide) hEL R0.1 (fun _ _ => trivial)) (g := (mkF m 59 #[vi p0, vi p1, vi p2, vi p3, vi p4, vi s0, vi s1, vi m0, vi m1, vi sl, vi mm, .unset, .unset, .unset, .unset] [(.int s1), (.int s0), (.int sl)])) rfl (by rw [hml]; rfl) (argsL := [(.int sl), (.int s0), (.int s1)]) (rest := []) (lenOf pd_oICCcLjavaslangsStringe rfl) rfl (by show 2 * 0 + _ ≤ _; exact Nat.le_of_eq rfl) (hb hby at_59) (fun _ _ => ⟨rfl, e0, (by decide : 0 + 6 ≤ _), (by decide : 0 + 12 ≤ _)⟩)
  dsimp only [Pt.U, Pt.locs, Pt.cells, Pt.slots] at Xx14 hSx14 hgx14 l14 y14 z14 r14 st14 hQ14
  subst l14 y14 z14
  obtain ⟨hQ14, hG14⟩ := hQ14
  obtain ⟨X14, hS14, hZ14, hown14⟩ := rebS hS0 (Nat.zero_le _) Xx14 hSx14 (e0 ▸ hgx14) hZ hown
  obtain ⟨x14, t14, kb14, rfl, Nq14, Kq14, gx14, So14⟩ := hQ14
  have c15 : SS p e below S0 (T14.setTop (mkF m 62 #[vi p0, vi p1, vi p2, vi p3, vi p4, vi s0, vi s1, vi m0, vi m1, vi sl, vi mm, .unset, .unset, .unset, .unset] [(.ref x14)])) := c13.trans (st14)
  have N14 := Fr.app N0 Nq14
  have z14 : n0 ≤ T14.heap.size := Nat.le_trans Z0 Kq14.1
  have K14 := K0.trans Kq14 all0
  have R14 := R0.trans r14
  have lt_x14 := So14.1.1.lt
  have lt_t14 := So14.1.2.2.2.1.lt
  have sf_x14 : Safe Z EL T14.vm T14.heap x14 := hG14 _ rfl
  have c16 : SS p e below S0 (T14.setTop (mkF m 70 #[vi p0, vi p1, vi p2, vi p3, vi p4, vi s0, vi s1, vi m0, vi m1, vi sl, vi mm, vr x14, .unset, .unset, .unset] [(.int m1), (.int m0), (.int mm)])) := c15.trans (by
    show SS p e below (T14.setTop (mkF m 62 #[vi p0, vi p1, vi p2, vi p3, vi p4, vi s0, vi s1, vi m0, vi m1, vi sl, vi mm, .unset, .unset, .unset, .unset] [(.ref x14)])) _
    refine XS.astore X14.here hx rfl (hb hby at_62) rfl rfl (l' := #[vi p0, vi p1, vi p2, vi p3, vi p4, vi s0, vi s1, vi m0, vi m1, vi sl, vi mm, vr x14, .unset, .unset, .unset]) rfl ?_
    refine XS.iload X14.here hx rfl (hb hby at_64) rfl ?_
    refine XS.iload X14.here hx rfl (hb hby at_66) rfl ?_
    refine XS.iload X14.here hx rfl (hb hby at_68) rfl ?_
    exact Steps.refl _)
  obtain ⟨_, _, ⟨T17, L17, kk17, nn17⟩, -, Xx17, hSx17, hgx17, ⟨Lc17, hQ17, l17, y17, z17, r17⟩, st17⟩ := callSS X14 hx (y := (⟨"com/example/evenkeel/evenkeel/RouteToStringPinLaw", "mk", "(ICC)Ljava/lang/String;"⟩ : MethodName)) hown14 (mvT hZ14 (ww hw 1 rfl)) (mvT hZ14 (ww hw 2 rfl)) (mvT hZ14 (ww hw 3 rfl)) (mvT hZ14 (ww hw 4 rfl)) (by decide) (own_backG (W := 0) (rmMk l Z a0 hw [] mm m0 m1 G1 T14.heap n0 z14 h8m0 h8m1 O2 P5 (X00.keep Kq14 all0)) hZ14 (ww hw 4 rfl) (ww hw 3 rfl) (by decide) (by decide) hEL R14.1 (fun _ _ => trivial)) (g := (mkF m 70 #[vi p0, vi p1, vi p2, vi p3, vi p4, vi s0, vi s1, vi m0, vi m1, vi sl, vi mm, vr x14, .unset, .unset, .unset] [(.int m1), (.int m0), (.int mm)])) rfl (by rw [hml]; rfl) (argsL := [(.int mm), (.int m0), (.int m1)]) (rest := []) (lenOf pd_oICCcLjavaslangsStringe rfl) rfl (by show 2 * 0 + _ ≤ _; exact Nat.le_of_eq rfl) (hb hby at_70) (fun _ _ => ⟨rfl, rfl, (by decide : 6 + 6 ≤ _), (by decide : 12 + 12 ≤ _)⟩)
  dsimp only [Pt.U, Pt.locs, Pt.cells, Pt.slots] at Xx17 hSx17 hgx17 l17 y17 z17 r17 st17 hQ17
  subst l17 y17 z17
  obtain ⟨hQ17, hG17⟩ := hQ17
  obtain ⟨X17, hS17, hZ17, hown17⟩ := rebS hS14 (Nat.le_refl _) Xx17 hSx17 hgx17 hZ14 hown14
  obtain ⟨x17, t17, kb17, rfl, Nq17, Kq17, gx17, So17⟩ := hQ17
  have c18 : SS p e below S0 (T17.setTop (mkF m 73 #[vi p0, vi p1, vi p2, vi p3, vi p4, vi s0, vi s1, vi m0, vi m1, vi sl, vi mm, vr x14, .unset, .unset, .unset] [(.ref x17)])) := c16.trans (st17)
  have N17 := Fr.app N14 Nq17
  have z17 : n0 ≤ T17.heap.size := Nat.le_trans z14 Kq17.1
  have K17 := K14.trans Kq17 all0
  have R17 := R14.trans r17
  have lt_x17 := So17.1.1.lt
  have lt_t17 := So17.1.2.2.2.1.lt
  have sf_x17 : Safe Z EL T17.vm T17.heap x17 := hG17 _ rfl
  have c19 : SS p e below S0 (T17.setTop (mkF m 75 #[vi p0, vi p1, vi p2, vi p3, vi p4, vi s0, vi s1, vi m0, vi m1, vi sl, vi mm, vr x14, vr x17, .unset, .unset] [])) := c18.trans (by
    show SS p e below (T17.setTop (mkF m 73 #[vi p0, vi p1, vi p2, vi p3, vi p4, vi s0, vi s1, vi m0, vi m1, vi sl, vi mm, vr x14, .unset, .unset, .unset] [(.ref x17)])) _
    refine XS.astore X17.here hx rfl (hb hby at_73) rfl rfl (l' := #[vi p0, vi p1, vi p2, vi p3, vi p4, vi s0, vi s1, vi m0, vi m1, vi sl, vi mm, vr x14, vr x17, .unset, .unset]) rfl ?_
    exact Steps.refl _)
  obtain ⟨T20, h20, X20, e20, E20, A20, D20, -, st20⟩ := newO X17 hx hZ17 hown17 (ww hw 27 rfl) (ww hw 28 rfl) (ww hw 29 rfl) rfl (g := (mkF m 75 #[vi p0, vi p1, vi p2, vi p3, vi p4, vi s0, vi s1, vi m0, vi m1, vi sl, vi mm, vr x14, vr x17, .unset, .unset] [])) rfl (hb hby at_75) (by decide) (by decide)
  obtain ⟨b20, g20⟩ : ∃ z, z = T17.heap.size := ⟨_, rfl⟩
  rw [← g20] at A20 D20 st20
  have sn20 : Safe Z EL T17.vm T17.heap b20 := Safe.new (Nat.le_of_eq g20.symm)
  have c21 : SS p e below S0 (T20.setTop (mkF m 78 #[vi p0, vi p1, vi p2, vi p3, vi p4, vi s0, vi s1, vi m0, vi m1, vi sl, vi mm, vr x14, vr x17, .unset, .unset] [(.ref b20)])) := c19.trans (st20 _ (Steps.refl _))
  have z20 : n0 ≤ h20.size := Nat.le_trans z17 E20.1
  have K20 := K17.ext E20
  have r20 : CHr Z EL T17.vm T17.heap T17.vm h20 := CHr.ext E20 R17.1
  have R20 := R17.trans r20
  have lt_b20 : b20 < h20.size := A20.lt
  have sf20 : Safe Z EL T17.vm h20 b20 := Safe.ext E20 R17.1 sn20
  have F20_service : Fld Z h20 b20 "com/example/evenkeel/evenkeel/Route" "service" "Ljava/lang/String;" .null := D20 (Or.inr (ww hw 41 rfl)) (ty := (.object "java/lang/String")) (by decide)
  have F20_method : Fld Z h20 b20 "com/example/evenkeel/evenkeel/Route" "method" "Ljava/lang/String;" .null := D20 (Or.inr (ww hw 44 rfl)) (ty := (.object "java/lang/String")) (by decide)
  have F20_hash : Fld Z h20 b20 "com/example/evenkeel/evenkeel/Route" "hash" "I" (.int 0) := D20 (Or.inr (ww hw 65 rfl)) (ty := .int) (by decide)
  have c22 : SS p e below S0 (T20.setTop (mkF m 83 #[vi p0, vi p1, vi p2, vi p3, vi p4, vi s0, vi s1, vi m0, vi m1, vi sl, vi mm, vr x14, vr x17, .unset, .unset] [(.ref x17), (.ref x14), (.ref b20), (.ref b20)])) := c21.trans (by
    show SS p e below (T20.setTop (mkF m 78 #[vi p0, vi p1, vi p2, vi p3, vi p4, vi s0, vi s1, vi m0, vi m1, vi sl, vi mm, vr x14, vr x17, .unset, .unset] [(.ref b20)])) _
    refine XS.dup X20.here hx rfl (hb hby at_78) rfl rfl ?_
    refine XS.aload X20.here hx rfl (hb hby at_79) rfl rfl ?_
    refine XS.aload X20.here hx rfl (hb hby at_81) rfl rfl ?_
    exact Steps.refl _)
  obtain ⟨_, _, ⟨T23, L23, kk23, nn23⟩, -, Xx23, hSx23, hgx23, ⟨Lc23, hQ23, l23, y23, z23, r23⟩, st23⟩ := X20.specialBackS hx (y := (⟨"com/example/evenkeel/evenkeel/Route", "<init>", "(Ljava/lang/String;Ljava/lang/String;)V"⟩ : MethodName)) rfl hown17 (mvT hZ17 (ww hw 30 rfl)) (mvT hZ17 (ww hw 31 rfl)) (mvT hZ17 (ww hw 32 rfl)) (by decide) (own_backG (W := 1) (rmRt l Z a0 hw [] b20 x14 t14 x17 t17 kb14 kb17 (own_mk sl s0 s1) (own_mk mm m0 m1) G1 h20 n0 z20 (Nat.le_trans Z0 (Nat.le_trans K17.1 (Nat.le_of_eq g20.symm))) (Nat.le_trans Z0 (Nat.le_trans K0.1 gx14)) (Nat.le_trans Z0 (Nat.le_trans K14.1 gx17)) A20 F20_service F20_method F20_hash ⟨⟨((So14.1.1.keep Kq17).ext E20), ((So14.1.2.1.keep Kq17 nin0).ext E20), ((So14.1.2.2.1.keep Kq17 nin0).ext E20), ((So14.1.2.2.2.1.keep Kq17 nin0).ext E20), So14.1.2.2.2.2.1, So14.1.2.2.2.2.2⟩, ((So14.2.1.keep Kq17 nin0).ext E20), ((So14.2.2.1.keep Kq17 nin0).ext E20), So14.2.2.2⟩ ⟨⟨(So17.1.1.ext E20), (So17.1.2.1.ext E20), (So17.1.2.2.1.ext E20), (So17.1.2.2.2.1.ext E20), So17.1.2.2.2.2.1, So17.1.2.2.2.2.2⟩, (So17.2.1.ext E20), (So17.2.2.1.ext E20), So17.2.2.2⟩ (Nat.ne_of_lt (Nat.lt_of_lt_of_le lt_x14 gx17)) O2 P5 (((X00.keep Kq14 all0).keep Kq17 all0).ext E20)) hZ17 (ww hw 32 rfl) (ww hw 29 rfl) (by decide) (by decide) hEL R20.1 (fun _ r => ⟨r.safe (Nat.lt_of_lt_of_le lt_x14 (Nat.le_trans Kq17.1 E20.1)) (r20.safe (Nat.lt_of_lt_of_le lt_x14 Kq17.1) (r17.safe lt_x14 sf_x14)), r.safe (Nat.lt_of_lt_of_le lt_x17 E20.1) (r20.safe lt_x17 sf_x17)⟩)) (g := (mkF m 83 #[vi p0, vi p1, vi p2, vi p3, vi p4, vi s0, vi s1, vi m0, vi m1, vi sl, vi mm, vr x14, vr x17, .unset, .unset] [(.ref x17), (.ref x14), (.ref b20), (.ref b20)])) rfl (by rw [hml]; rfl) (Steps.refl _) (a := b20) (argsL := [(.ref x14), (.ref x17)]) (rest := [(.ref b20)]) (lenOf pd_oLjavaslangsStringeLjavaslangsStringecV rfl) rfl (by show 2 * 0 + _ ≤ _; exact Nat.le_of_eq rfl) (hb hby at_83) (fun _ _ => ⟨rfl, e20, (by decide : 13 + 4 ≤ _), (by decide : 27 + 60 ≤ _)⟩)
  dsimp only [Pt.U, Pt.locs, Pt.cells, Pt.slots] at Xx23 hSx23 hgx23 l23 y23 z23 r23 st23 hQ23
  subst l23 y23 z23
  obtain ⟨hQ23, hG23⟩ := hQ23
  obtain ⟨X23, hS23, hZ23, hown23⟩ := rebS hS17 (Nat.le_trans (Nat.le_refl _) E20.1) Xx23 hSx23 (e20 ▸ hgx23) hZ17 hown17
  obtain ⟨rfl, Nq23, Kq23, Ei23, Fa23, Fb23, Ss23, Sm23⟩ := hQ23
  have c24 : SS p e below S0 (T23.setTop (mkF m 86 #[vi p0, vi p1, vi p2, vi p3, vi p4, vi s0, vi s1, vi m0, vi m1, vi sl, vi mm, vr x14, vr x17, .unset, .unset] [(.ref b20)])) := c22.trans (st23)
  have N23 := Fr.app N17 Nq23
  have z23 : n0 ≤ T23.heap.size := Nat.le_trans z20 Kq23.1
  have K23 := K20.trans Kq23 (allS (Or.inr (Nat.le_trans K17.1 (Nat.le_of_eq g20.symm))) (allS (Or.inr (Nat.le_trans K0.1 gx14)) (allS (Or.inr (Nat.le_trans K14.1 gx17)) all0)))
  have R23 := R20.trans r23
  obtain ⟨cq25, kq25, q25a, q25b, q25c⟩ := isOf hZ23 rfl Ei23
  obtain ⟨_, _, ⟨T25, L25, kk25, nn25⟩, -, Xx25, hSx25, hgx25, ⟨Lc25, hQ25, l25, y25, z25, r25⟩, st25⟩ := X23.virtualBackS hx (y := (⟨"com/example/evenkeel/evenkeel/Route", "toString", "()Ljava/lang/String;"⟩ : MethodName)) (z := (⟨"com/example/evenkeel/evenkeel/Route", "toString", "()Ljava/lang/String;"⟩ : MethodName)) hown23 (mvT hZ23 (ww hw 66 rfl)) (mvT hZ23 (ww hw 67 rfl)) (notFace_of_selects (args := #[]) (mvT hZ23 (ww hw 69 rfl))) (mvT hZ23 (ww hw 69 rfl)) (mvT hZ23 (ww hw 68 rfl)) (by decide) (backOfSH (W := 0) (rmT l Z a0 hw [] b20 x14 t14 x17 t17 kb14 kb17 (own_mk sl s0 s1) (own_mk mm m0 m1) G1 T23.heap n0 z23 Fa23 Fb23 ⟨Ss23.1, Ss23.2.1, Ss23.2.2.1, Ss23.2.2.2.1, Ss23.2.2.2.2.1, Ss23.2.2.2.2.2⟩ ⟨Sm23.1, Sm23.2.1, Sm23.2.2.1, Sm23.2.2.2.1, Sm23.2.2.2.2.1, Sm23.2.2.2.2.2⟩ (own_mkl l3sl) (own_mkl l3mm) O2 P5 ((((X00.keep Kq14 all0).keep Kq17 all0).ext E20).keep Kq23 (allS (Nat.le_trans Z0 (Nat.le_trans K17.1 (Nat.le_of_eq g20.symm))) (allS (Nat.le_trans Z0 (Nat.le_trans K0.1 gx14)) (allS (Nat.le_trans Z0 (Nat.le_trans K14.1 gx17)) all0))))) hZ23 (ww hw 70 rfl) (ww hw 29 rfl) (by decide) (by decide) hEL R23.1) q25a q25c (g := (mkF m 86 #[vi p0, vi p1, vi p2, vi p3, vi p4, vi s0, vi s1, vi m0, vi m1, vi sl, vi mm, vr x14, vr x17, .unset, .unset] [(.ref b20)])) rfl (by rw [hml]; rfl) (Steps.refl _) (argsL := []) (rest := []) (lenOf pd_ocLjavaslangsStringe rfl) rfl (by show 2 * 0 + _ ≤ _; exact Nat.le_of_eq rfl) (hb hby at_86) (fun _ _ => ⟨rfl, rfl, (by decide : 17 + 6 ≤ _), (by decide : 87 + 48 ≤ _)⟩)
  dsimp only [Pt.U, Pt.locs, Pt.cells, Pt.slots] at Xx25 hSx25 hgx25 l25 y25 z25 r25 st25 hQ25
  subst l25 y25 z25
  obtain ⟨X25, hS25, hZ25, hown25⟩ := rebS hS23 (Nat.le_refl _) Xx25 hSx25 hgx25 hZ23 hown23
  obtain ⟨x25, t25, kb25, rfl, Nq25, Kq25, gx25, So25⟩ := hQ25
  have c26 : SS p e below S0 (T25.setTop (mkF m 89 #[vi p0, vi p1, vi p2, vi p3, vi p4, vi s0, vi s1, vi m0, vi m1, vi sl, vi mm, vr x14, vr x17, .unset, .unset] [(.ref x25)])) := c24.trans (st25)
  have N25 := Fr.app N23 Nq25
  have z25 : n0 ≤ T25.heap.size := Nat.le_trans z23 Kq25.1
  have K25 := K23.trans Kq25 all0
  have R25 := R23.trans r25
  have c27 : SS p e below S0 (T25.setTop (mkF m 100 #[vi p0, vi p1, vi p2, vi p3, vi p4, vi s0, vi s1, vi m0, vi m1, vi sl, vi mm, vr x14, vr x17, vr x25, vi ((sl + (1 : Int32)) + mm)] [])) := c26.trans (by
    show SS p e below (T25.setTop (mkF m 89 #[vi p0, vi p1, vi p2, vi p3, vi p4, vi s0, vi s1, vi m0, vi m1, vi sl, vi mm, vr x14, vr x17, .unset, .unset] [(.ref x25)])) _
    refine XS.astore X25.here hx rfl (hb hby at_89) rfl rfl (l' := #[vi p0, vi p1, vi p2, vi p3, vi p4, vi s0, vi s1, vi m0, vi m1, vi sl, vi mm, vr x14, vr x17, vr x25, .unset]) rfl ?_
    refine XS.iload X25.here hx rfl (hb hby at_91) rfl ?_
    refine XS.iconst X25.here hx rfl (hb hby at_93) ?_
    refine XS.iadd X25.here hx rfl (hb hby at_94) rfl ?_
    refine XS.iload X25.here hx rfl (hb hby at_95) rfl ?_
    refine XS.iadd X25.here hx rfl (hb hby at_97) rfl ?_
    refine XS.istore X25.here hx rfl (hb hby at_98) rfl (l' := #[vi p0, vi p1, vi p2, vi p3, vi p4, vi s0, vi s1, vi m0, vi m1, vi sl, vi mm, vr x14, vr x17, vr x25, vi ((sl + (1 : Int32)) + mm)]) rfl ?_
    exact Steps.refl _)
  obtain ⟨nn, hnn, c28⟩ : ∃ z : Int32, z = ((sl + (1 : Int32)) + mm) ∧ SS p e below S0 (T25.setTop (mkF m 100 #[vi p0, vi p1, vi p2, vi p3, vi p4, vi s0, vi s1, vi m0, vi m1, vi sl, vi mm, vr x14, vr x17, vr x25, vi z] [])) := ⟨_, rfl, c27⟩
  have c29 : SS p e below S0 (T25.setTop (mkF m 107 #[vi p0, vi p1, vi p2, vi p3, vi p4, vi s0, vi s1, vi m0, vi m1, vi sl, vi mm, vr x14, vr x17, vr x25, vi nn] [(.ref x25)])) := c28.trans (by
    show SS p e below (T25.setTop (mkF m 100 #[vi p0, vi p1, vi p2, vi p3, vi p4, vi s0, vi s1, vi m0, vi m1, vi sl, vi mm, vr x14, vr x17, vr x25, vi nn] [])) _
    refine XS.aload X25.here hx rfl (hb hby at_100) rfl rfl ?_
    refine XS.ifnullNo X25.here hx rfl (hb hby at_102) rfl ?_
    refine XS.aload X25.here hx rfl (hb hby at_105) rfl rfl ?_
    exact Steps.refl _)
  have hln30 : ∀ d ∈ StrChars.Road.wordsLen, d.before a0 Z = true := fun d hd => hw d (own_in_wordsLen d hd)
  obtain ⟨cq31, kq31, q31a, q31b, q31c⟩ := isOf hZ25 rfl So25.1
  obtain ⟨_, _, ⟨T31, L31, kk31, nn31⟩, -, X31, ⟨Lc31, hQ31, l31, y31, z31⟩, st31⟩ := X25.virtualBack hx (y := (⟨"java/lang/String", "length", "()I"⟩ : MethodName)) (z := (⟨"java/lang/String", "length", "()I"⟩ : MethodName)) hown25 (mvT hZ25 (ww hw 182 rfl)) (mvT hZ25 (ww hw 100 rfl)) (notFace_of_selects (args := #[]) (mvT hZ25 (ww hw 102 rfl))) (mvT hZ25 (ww hw 102 rfl)) (mvT hZ25 (ww hw 101 rfl)) (by decide) (StrChars.Road.lenW (W := 0) hZ25 hln30 (kI := 4) (ww hw 6 rfl) So25.1 So25.2.1 So25.2.2.1 So25.2.2.2.1 So25.cod (own_up _ So25.2.2.2.2.1) (O2.ext (((((X00.keep Kq14 all0).keep Kq17 all0).ext E20).keep Kq23 (allS (Nat.le_trans Z0 (Nat.le_trans K17.1 (Nat.le_of_eq g20.symm))) (allS (Nat.le_trans Z0 (Nat.le_trans K0.1 gx14)) (allS (Nat.le_trans Z0 (Nat.le_trans K14.1 gx17)) all0)))).keep Kq25 all0).2) P5 So25.2.2.2.2.2 (by decide) (by decide)) q31a q31c (g := (mkF m 107 #[vi p0, vi p1, vi p2, vi p3, vi p4, vi s0, vi s1, vi m0, vi m1, vi sl, vi mm, vr x14, vr x17, vr x25, vi nn] [(.ref x25)])) rfl (by rw [hml]; rfl) (Steps.refl _) (argsL := []) (rest := []) (lenOf pd_ocI rfl) rfl (by show 2 * 0 + _ ≤ _; exact Nat.le_of_eq rfl) (hb hby at_107) (fun _ _ => ⟨rfl, rfl, (by decide : 23 + 0 ≤ _), (by decide : 135 + 0 ≤ _)⟩)
  dsimp only [Pt.U, Pt.locs, Pt.cells, Pt.slots] at X31 l31 y31 z31 st31 hQ31
  subst l31 y31 z31
  obtain ⟨rfl, Lq31, eq31⟩ := hQ31
  have c32 : SS p e below S0 (T31.setTop (mkF m 110 #[vi p0, vi p1, vi p2, vi p3, vi p4, vi s0, vi s1, vi m0, vi m1, vi sl, vi mm, vr x14, vr x17, vr x25, vi nn] [(.int (Int32.ofNat ((([] ++ (own_mk sl s0 s1)) ++ [46]) ++ (own_mk mm m0 m1) : List Int32).length))])) := c29.trans (st31)
  have N31 := Fr.app N25 (Lq31 ▸ Fr.nil n0)
  rw [((own_rl l3sl l3mm).trans hnn.symm)] at c32
  have c33 : SS p e below S0 (T31.setTop (mkF m 132 #[vi p0, vi p1, vi p2, vi p3, vi p4, vi s0, vi s1, vi m0, vi m1, vi sl, vi mm, vr x14, vr x17, vr x25, vi nn] [(.int m1), (.int m0), (.int s1), (.int s0), (.int sl), (.int nn), (.int 0), (.ref x25)])) := c32.trans (by
    show SS p e below (T31.setTop (mkF m 110 #[vi p0, vi p1, vi p2, vi p3, vi p4, vi s0, vi s1, vi m0, vi m1, vi sl, vi mm, vr x14, vr x17, vr x25, vi nn] [(.int nn)])) _
    refine XS.iload X31.here hx rfl (hb hby at_110) rfl ?_
    refine XS.icmpYes X31.here hx rfl (pc0 := 112) (pc' := 117) rfl (hb hby at_112) rfl (teq (rfl : nn = nn)).1 (by decide) (by decide) ?_
    refine XS.aload X31.here hx rfl (hb hby at_117) rfl rfl ?_
    refine XS.iconst X31.here hx rfl (hb hby at_119) ?_
    refine XS.iload X31.here hx rfl (hb hby at_120) rfl ?_
    refine XS.iload X31.here hx rfl (hb hby at_122) rfl ?_
    refine XS.iload X31.here hx rfl (hb hby at_124) rfl ?_
    refine XS.iload X31.here hx rfl (hb hby at_126) rfl ?_
    refine XS.iload X31.here hx rfl (hb hby at_128) rfl ?_
    refine XS.iload X31.here hx rfl (hb hby at_130) rfl ?_
    exact Steps.refl _)
  obtain ⟨_, _, ⟨T34, L34, kk34, nn34⟩, -, X34, ⟨Lc34, hQ34, l34, y34, z34⟩, st34⟩ := Jvm.LawKit.callS X31 hx (y := (⟨"com/example/evenkeel/evenkeel/RouteToStringPinLaw", "at", "(Ljava/lang/String;IIICCCC)Z"⟩ : MethodName)) hown25 (mvT hZ25 (ww hw 183 rfl)) (mvT hZ25 (ww hw 184 rfl)) (mvT hZ25 (ww hw 3 rfl)) (mvT hZ25 (ww hw 185 rfl)) (by decide) (backOf (W := 0) (rmAt l Z a0 hw [] x25 t25 kb25 ((([] ++ (own_mk sl s0 s1)) ++ [46]) ++ (own_mk mm m0 m1) : List Int32) (0 : Int32) nn sl s0 s1 m0 m1 0 G1 G3 T25.heap n0 z25 ⟨So25.1, So25.2.1, So25.2.2.1, So25.2.2.2.1, So25.2.2.2.2.1, So25.2.2.2.2.2⟩ rfl (own_at l3sl l3mm hnn 0 (Or.inl rfl) rfl) O2 P5 (((((X00.keep Kq14 all0).keep Kq17 all0).ext E20).keep Kq23 (allS (Nat.le_trans Z0 (Nat.le_trans K17.1 (Nat.le_of_eq g20.symm))) (allS (Nat.le_trans Z0 (Nat.le_trans K0.1 gx14)) (allS (Nat.le_trans Z0 (Nat.le_trans K14.1 gx17)) all0)))).keep Kq25 all0) O4 rG3) hZ25 (ww hw 185 rfl) (ww hw 3 rfl) (by decide) (by decide)) (g := (mkF m 132 #[vi p0, vi p1, vi p2, vi p3, vi p4, vi s0, vi s1, vi m0, vi m1, vi sl, vi mm, vr x14, vr x17, vr x25, vi nn] [(.int m1), (.int m0), (.int s1), (.int s0), (.int sl), (.int nn), (.int 0), (.ref x25)])) rfl (by rw [hml]; rfl) (argsL := [(.ref x25), (.int 0), (.int nn), (.int sl), (.int s0), (.int s1), (.int m0), (.int m1)]) (rest := []) (lenOf pd_oLjavaslangsStringeIIICCCCcZ rfl) rfl (by show 2 * 0 + _ ≤ _; exact Nat.le_of_eq rfl) (hb hby at_132) (fun _ _ => ⟨rfl, eq31, (by decide : 23 + 0 ≤ _), (by decide : 135 + 0 ≤ _)⟩)
  dsimp only [Pt.U, Pt.locs, Pt.cells, Pt.slots] at X34 l34 y34 z34 st34 hQ34
  subst l34 y34 z34
  obtain ⟨rfl, Nq34, eq34⟩ := hQ34
  have c35 : SS p e below S0 (T34.setTop (mkF m 135 #[vi p0, vi p1, vi p2, vi p3, vi p4, vi s0, vi s1, vi m0, vi m1, vi sl, vi mm, vr x14, vr x17, vr x25, vi nn] [(.int 1)])) := c33.trans (st34 _ (Steps.refl _))
  have N34 := Fr.app N31 Nq34
  have c36 : SS p e below S0 (T34.setTop (mkF m 153 #[vi p0, vi p1, vi p2, vi p3, vi p4, vi s0, vi s1, vi m0, vi m1, vi sl, vi mm, vr x14, vr x17, vr x25, vi nn] [(.int m1), (.int m0), (.int s1), (.int s0), (.int sl), (.int nn), (.int 1), (.ref x25)])) := c35.trans (by
    show SS p e below (T34.setTop (mkF m 135 #[vi p0, vi p1, vi p2, vi p3, vi p4, vi s0, vi s1, vi m0, vi m1, vi sl, vi mm, vr x14, vr x17, vr x25, vi nn] [(.int 1)])) _
    refine XS.ifNo X34.here hx rfl (hb hby at_135) rfl ((if0 _ _).trans (feq (by decide : ¬ ((1 : Int32) = (0 : Int32)))).1) ?_
    refine XS.aload X34.here hx rfl (hb hby at_138) rfl rfl ?_
    refine XS.iconst X34.here hx rfl (hb hby at_140) ?_
    refine XS.iload X34.here hx rfl (hb hby at_141) rfl ?_
    refine XS.iload X34.here hx rfl (hb hby at_143) rfl ?_
    refine XS.iload X34.here hx rfl (hb hby at_145) rfl ?_
    refine XS.iload X34.here hx rfl (hb hby at_147) rfl ?_
    refine XS.iload X34.here hx rfl (hb hby at_149) rfl ?_
    refine XS.iload X34.here hx rfl (hb hby at_151) rfl ?_
    exact Steps.refl _)
  obtain ⟨_, _, ⟨T37, L37, kk37, nn37⟩, -, X37, ⟨Lc37, hQ37, l37, y37, z37⟩, st37⟩ := Jvm.LawKit.callS X34 hx (y := (⟨"com/example/evenkeel/evenkeel/RouteToStringPinLaw", "at", "(Ljava/lang/String;IIICCCC)Z"⟩ : MethodName)) hown25 (mvT hZ25 (ww hw 183 rfl)) (mvT hZ25 (ww hw 184 rfl)) (mvT hZ25 (ww hw 3 rfl)) (mvT hZ25 (ww hw 185 rfl)) (by decide) (backOf (W := 0) (rmAt l Z a0 hw [] x25 t25 kb25 ((([] ++ (own_mk sl s0 s1)) ++ [46]) ++ (own_mk mm m0 m1) : List Int32) (1 : Int32) nn sl s0 s1 m0 m1 1 G1 G3 T25.heap n0 z25 ⟨So25.1, So25.2.1, So25.2.2.1, So25.2.2.2.1, So25.2.2.2.2.1, So25.2.2.2.2.2⟩ rfl (own_at l3sl l3mm hnn 1 (Or.inr (Or.inl rfl)) rfl) O2 P5 (((((X00.keep Kq14 all0).keep Kq17 all0).ext E20).keep Kq23 (allS (Nat.le_trans Z0 (Nat.le_trans K17.1 (Nat.le_of_eq g20.symm))) (allS (Nat.le_trans Z0 (Nat.le_trans K0.1 gx14)) (allS (Nat.le_trans Z0 (Nat.le_trans K14.1 gx17)) all0)))).keep Kq25 all0) O4 rG3) hZ25 (ww hw 185 rfl) (ww hw 3 rfl) (by decide) (by decide)) (g := (mkF m 153 #[vi p0, vi p1, vi p2, vi p3, vi p4, vi s0, vi s1, vi m0, vi m1, vi sl, vi mm, vr x14, vr x17, vr x25, vi nn] [(.int m1), (.int m0), (.int s1), (.int s0), (.int sl), (.int nn), (.int 1), (.ref x25)])) rfl (by rw [hml]; rfl) (argsL := [(.ref x25), (.int 1), (.int nn), (.int sl), (.int s0), (.int s1), (.int m0), (.int m1)]) (rest := []) (lenOf pd_oLjavaslangsStringeIIICCCCcZ rfl) rfl (by show 2 * 0 + _ ≤ _; exact Nat.le_of_eq rfl) (hb hby at_153) (fun _ _ => ⟨rfl, eq34, (by decide : 23 + 0 ≤ _), (by decide : 135 + 0 ≤ _)⟩)
  dsimp only [Pt.U, Pt.locs, Pt.cells, Pt.slots] at X37 l37 y37 z37 st37 hQ37
  subst l37 y37 z37
  obtain ⟨rfl, Nq37, eq37⟩ := hQ37
  have c38 : SS p e below S0 (T37.setTop (mkF m 156 #[vi p0, vi p1, vi p2, vi p3, vi p4, vi s0, vi s1, vi m0, vi m1, vi sl, vi mm, vr x14, vr x17, vr x25, vi nn] [(.int 1)])) := c36.trans (st37 _ (Steps.refl _))
  have N37 := Fr.app N34 Nq37
  have c39 : SS p e below S0 (T37.setTop (mkF m 174 #[vi p0, vi p1, vi p2, vi p3, vi p4, vi s0, vi s1, vi m0, vi m1, vi sl, vi mm, vr x14, vr x17, vr x25, vi nn] [(.int m1), (.int m0), (.int s1), (.int s0), (.int sl), (.int nn), (.int 2), (.ref x25)])) := c38.trans (by
    show SS p e below (T37.setTop (mkF m 156 #[vi p0, vi p1, vi p2, vi p3, vi p4, vi s0, vi s1, vi m0, vi m1, vi sl, vi mm, vr x14, vr x17, vr x25, vi nn] [(.int 1)])) _
    refine XS.ifNo X37.here hx rfl (hb hby at_156) rfl ((if0 _ _).trans (feq (by decide : ¬ ((1 : Int32) = (0 : Int32)))).1) ?_
    refine XS.aload X37.here hx rfl (hb hby at_159) rfl rfl ?_
    refine XS.iconst X37.here hx rfl (hb hby at_161) ?_
    refine XS.iload X37.here hx rfl (hb hby at_162) rfl ?_
    refine XS.iload X37.here hx rfl (hb hby at_164) rfl ?_
    refine XS.iload X37.here hx rfl (hb hby at_166) rfl ?_
    refine XS.iload X37.here hx rfl (hb hby at_168) rfl ?_
    refine XS.iload X37.here hx rfl (hb hby at_170) rfl ?_
    refine XS.iload X37.here hx rfl (hb hby at_172) rfl ?_
    exact Steps.refl _)
  obtain ⟨_, _, ⟨T40, L40, kk40, nn40⟩, -, X40, ⟨Lc40, hQ40, l40, y40, z40⟩, st40⟩ := Jvm.LawKit.callS X37 hx (y := (⟨"com/example/evenkeel/evenkeel/RouteToStringPinLaw", "at", "(Ljava/lang/String;IIICCCC)Z"⟩ : MethodName)) hown25 (mvT hZ25 (ww hw 183 rfl)) (mvT hZ25 (ww hw 184 rfl)) (mvT hZ25 (ww hw 3 rfl)) (mvT hZ25 (ww hw 185 rfl)) (by decide) (backOf (W := 0) (rmAt l Z a0 hw [] x25 t25 kb25 ((([] ++ (own_mk sl s0 s1)) ++ [46]) ++ (own_mk mm m0 m1) : List Int32) (2 : Int32) nn sl s0 s1 m0 m1 2 G1 G3 T25.heap n0 z25 ⟨So25.1, So25.2.1, So25.2.2.1, So25.2.2.2.1, So25.2.2.2.2.1, So25.2.2.2.2.2⟩ rfl (own_at l3sl l3mm hnn 2 (Or.inr (Or.inr (Or.inl rfl))) rfl) O2 P5 (((((X00.keep Kq14 all0).keep Kq17 all0).ext E20).keep Kq23 (allS (Nat.le_trans Z0 (Nat.le_trans K17.1 (Nat.le_of_eq g20.symm))) (allS (Nat.le_trans Z0 (Nat.le_trans K0.1 gx14)) (allS (Nat.le_trans Z0 (Nat.le_trans K14.1 gx17)) all0)))).keep Kq25 all0) O4 rG3) hZ25 (ww hw 185 rfl) (ww hw 3 rfl) (by decide) (by decide)) (g := (mkF m 174 #[vi p0, vi p1, vi p2, vi p3, vi p4, vi s0, vi s1, vi m0, vi m1, vi sl, vi mm, vr x14, vr x17, vr x25, vi nn] [(.int m1), (.int m0), (.int s1), (.int s0), (.int sl), (.int nn), (.int 2), (.ref x25)])) rfl (by rw [hml]; rfl) (argsL := [(.ref x25), (.int 2), (.int nn), (.int sl), (.int s0), (.int s1), (.int m0), (.int m1)]) (rest := []) (lenOf pd_oLjavaslangsStringeIIICCCCcZ rfl) rfl (by show 2 * 0 + _ ≤ _; exact Nat.le_of_eq rfl) (hb hby at_174) (fun _ _ => ⟨rfl, eq37, (by decide : 23 + 0 ≤ _), (by decide : 135 + 0 ≤ _)⟩)
  dsimp only [Pt.U, Pt.locs, Pt.cells, Pt.slots] at X40 l40 y40 z40 st40 hQ40
  subst l40 y40 z40
  obtain ⟨rfl, Nq40, eq40⟩ := hQ40
  have c41 : SS p e below S0 (T40.setTop (mkF m 177 #[vi p0, vi p1, vi p2, vi p3, vi p4, vi s0, vi s1, vi m0, vi m1, vi sl, vi mm, vr x14, vr x17, vr x25, vi nn] [(.int 1)])) := c39.trans (st40 _ (Steps.refl _))
  have N40 := Fr.app N37 Nq40
  have c42 : SS p e below S0 (T40.setTop (mkF m 195 #[vi p0, vi p1, vi p2, vi p3, vi p4, vi s0, vi s1, vi m0, vi m1, vi sl, vi mm, vr x14, vr x17, vr x25, vi nn] [(.int m1), (.int m0), (.int s1), (.int s0), (.int sl), (.int nn), (.int 3), (.ref x25)])) := c41.trans (by
    show SS p e below (T40.setTop (mkF m 177 #[vi p0, vi p1, vi p2, vi p3, vi p4, vi s0, vi s1, vi m0, vi m1, vi sl, vi mm, vr x14, vr x17, vr x25, vi nn] [(.int 1)])) _
    refine XS.ifNo X40.here hx rfl (hb hby at_177) rfl ((if0 _ _).trans (feq (by decide : ¬ ((1 : Int32) = (0 : Int32)))).1) ?_
    refine XS.aload X40.here hx rfl (hb hby at_180) rfl rfl ?_
    refine XS.iconst X40.here hx rfl (hb hby at_182) ?_
    refine XS.iload X40.here hx rfl (hb hby at_183) rfl ?_
    refine XS.iload X40.here hx rfl (hb hby at_185) rfl ?_
    refine XS.iload X40.here hx rfl (hb hby at_187) rfl ?_
    refine XS.iload X40.here hx rfl (hb hby at_189) rfl ?_
    refine XS.iload X40.here hx rfl (hb hby at_191) rfl ?_
    refine XS.iload X40.here hx rfl (hb hby at_193) rfl ?_
    exact Steps.refl _)
  obtain ⟨_, _, ⟨T43, L43, kk43, nn43⟩, -, X43, ⟨Lc43, hQ43, l43, y43, z43⟩, st43⟩ := Jvm.LawKit.callS X40 hx (y := (⟨"com/example/evenkeel/evenkeel/RouteToStringPinLaw", "at", "(Ljava/lang/String;IIICCCC)Z"⟩ : MethodName)) hown25 (mvT hZ25 (ww hw 183 rfl)) (mvT hZ25 (ww hw 184 rfl)) (mvT hZ25 (ww hw 3 rfl)) (mvT hZ25 (ww hw 185 rfl)) (by decide) (backOf (W := 0) (rmAt l Z a0 hw [] x25 t25 kb25 ((([] ++ (own_mk sl s0 s1)) ++ [46]) ++ (own_mk mm m0 m1) : List Int32) (3 : Int32) nn sl s0 s1 m0 m1 3 G1 G3 T25.heap n0 z25 ⟨So25.1, So25.2.1, So25.2.2.1, So25.2.2.2.1, So25.2.2.2.2.1, So25.2.2.2.2.2⟩ rfl (own_at l3sl l3mm hnn 3 (Or.inr (Or.inr (Or.inr (Or.inl rfl)))) rfl) O2 P5 (((((X00.keep Kq14 all0).keep Kq17 all0).ext E20).keep Kq23 (allS (Nat.le_trans Z0 (Nat.le_trans K17.1 (Nat.le_of_eq g20.symm))) (allS (Nat.le_trans Z0 (Nat.le_trans K0.1 gx14)) (allS (Nat.le_trans Z0 (Nat.le_trans K14.1 gx17)) all0)))).keep Kq25 all0) O4 rG3) hZ25 (ww hw 185 rfl) (ww hw 3 rfl) (by decide) (by decide)) (g := (mkF m 195 #[vi p0, vi p1, vi p2, vi p3, vi p4, vi s0, vi s1, vi m0, vi m1, vi sl, vi mm, vr x14, vr x17, vr x25, vi nn] [(.int m1), (.int m0), (.int s1), (.int s0), (.int sl), (.int nn), (.int 3), (.ref x25)])) rfl (by rw [hml]; rfl) (argsL := [(.ref x25), (.int 3), (.int nn), (.int sl), (.int s0), (.int s1), (.int m0), (.int m1)]) (rest := []) (lenOf pd_oLjavaslangsStringeIIICCCCcZ rfl) rfl (by show 2 * 0 + _ ≤ _; exact Nat.le_of_eq rfl) (hb hby at_195) (fun _ _ => ⟨rfl, eq40, (by decide : 23 + 0 ≤ _), (by decide : 135 + 0 ≤ _)⟩)
  dsimp only [Pt.U, Pt.locs, Pt.cells, Pt.slots] at X43 l43 y43 z43 st43 hQ43
  subst l43 y43 z43
  obtain ⟨rfl, Nq43, eq43⟩ := hQ43
  have c44 : SS p e below S0 (T43.setTop (mkF m 198 #[vi p0, vi p1, vi p2, vi p3, vi p4, vi s0, vi s1, vi m0, vi m1, vi sl, vi mm, vr x14, vr x17, vr x25, vi nn] [(.int 1)])) := c42.trans (st43 _ (Steps.refl _))
  have N43 := Fr.app N40 Nq43
  have c45 : SS p e below S0 (T43.setTop (mkF m 216 #[vi p0, vi p1, vi p2, vi p3, vi p4, vi s0, vi s1, vi m0, vi m1, vi sl, vi mm, vr x14, vr x17, vr x25, vi nn] [(.int m1), (.int m0), (.int s1), (.int s0), (.int sl), (.int nn), (.int 4), (.ref x25)])) := c44.trans (by
    show SS p e below (T43.setTop (mkF m 198 #[vi p0, vi p1, vi p2, vi p3, vi p4, vi s0, vi s1, vi m0, vi m1, vi sl, vi mm, vr x14, vr x17, vr x25, vi nn] [(.int 1)])) _
    refine XS.ifNo X43.here hx rfl (hb hby at_198) rfl ((if0 _ _).trans (feq (by decide : ¬ ((1 : Int32) = (0 : Int32)))).1) ?_
    refine XS.aload X43.here hx rfl (hb hby at_201) rfl rfl ?_
    refine XS.iconst X43.here hx rfl (hb hby at_203) ?_
    refine XS.iload X43.here hx rfl (hb hby at_204) rfl ?_
    refine XS.iload X43.here hx rfl (hb hby at_206) rfl ?_
    refine XS.iload X43.here hx rfl (hb hby at_208) rfl ?_
    refine XS.iload X43.here hx rfl (hb hby at_210) rfl ?_
    refine XS.iload X43.here hx rfl (hb hby at_212) rfl ?_
    refine XS.iload X43.here hx rfl (hb hby at_214) rfl ?_
    exact Steps.refl _)
  obtain ⟨_, _, ⟨T46, L46, kk46, nn46⟩, -, X46, ⟨Lc46, hQ46, l46, y46, z46⟩, st46⟩ := Jvm.LawKit.callS X43 hx (y := (⟨"com/example/evenkeel/evenkeel/RouteToStringPinLaw", "at", "(Ljava/lang/String;IIICCCC)Z"⟩ : MethodName)) hown25 (mvT hZ25 (ww hw 183 rfl)) (mvT hZ25 (ww hw 184 rfl)) (mvT hZ25 (ww hw 3 rfl)) (mvT hZ25 (ww hw 185 rfl)) (by decide) (backOf (W := 0) (rmAt l Z a0 hw [] x25 t25 kb25 ((([] ++ (own_mk sl s0 s1)) ++ [46]) ++ (own_mk mm m0 m1) : List Int32) (4 : Int32) nn sl s0 s1 m0 m1 4 G1 G3 T25.heap n0 z25 ⟨So25.1, So25.2.1, So25.2.2.1, So25.2.2.2.1, So25.2.2.2.2.1, So25.2.2.2.2.2⟩ rfl (own_at l3sl l3mm hnn 4 (Or.inr (Or.inr (Or.inr (Or.inr rfl)))) rfl) O2 P5 (((((X00.keep Kq14 all0).keep Kq17 all0).ext E20).keep Kq23 (allS (Nat.le_trans Z0 (Nat.le_trans K17.1 (Nat.le_of_eq g20.symm))) (allS (Nat.le_trans Z0 (Nat.le_trans K0.1 gx14)) (allS (Nat.le_trans Z0 (Nat.le_trans K14.1 gx17)) all0)))).keep Kq25 all0) O4 rG3) hZ25 (ww hw 185 rfl) (ww hw 3 rfl) (by decide) (by decide)) (g := (mkF m 216 #[vi p0, vi p1, vi p2, vi p3, vi p4, vi s0, vi s1, vi m0, vi m1, vi sl, vi mm, vr x14, vr x17, vr x25, vi nn] [(.int m1), (.int m0), (.int s1), (.int s0), (.int sl), (.int nn), (.int 4), (.ref x25)])) rfl (by rw [hml]; rfl) (argsL := [(.ref x25), (.int 4), (.int nn), (.int sl), (.int s0), (.int s1), (.int m0), (.int m1)]) (rest := []) (lenOf pd_oLjavaslangsStringeIIICCCCcZ rfl) rfl (by show 2 * 0 + _ ≤ _; exact Nat.le_of_eq rfl) (hb hby at_216) (fun _ _ => ⟨rfl, eq43, (by decide : 23 + 0 ≤ _), (by decide : 135 + 0 ≤ _)⟩)
  dsimp only [Pt.U, Pt.locs, Pt.cells, Pt.slots] at X46 l46 y46 z46 st46 hQ46
  subst l46 y46 z46
  obtain ⟨rfl, Nq46, eq46⟩ := hQ46
  have c47 : SS p e below S0 (T46.setTop (mkF m 219 #[vi p0, vi p1, vi p2, vi p3, vi p4, vi s0, vi s1, vi m0, vi m1, vi sl, vi mm, vr x14, vr x17, vr x25, vi nn] [(.int 1)])) := c45.trans (st46 _ (Steps.refl _))
  have N46 := Fr.app N43 Nq46
  have c48 : SS p e below S0 (T46.setTop (mkF m 227 #[vi p0, vi p1, vi p2, vi p3, vi p4, vi s0, vi s1, vi m0, vi m1, vi sl, vi mm, vr x14, vr x17, vr x25, vi nn] [(.int 1)])) := c47.trans (by
    show SS p e below (T46.setTop (mkF m 219 #[vi p0, vi p1, vi p2, vi p3, vi p4, vi s0, vi s1, vi m0, vi m1, vi sl, vi mm, vr x14, vr x17, vr x25, vi nn] [(.int 1)])) _
    refine XS.ifNo X46.here hx rfl (hb hby at_219) rfl ((if0 _ _).trans (feq (by decide : ¬ ((1 : Int32) = (0 : Int32)))).1) ?_
    refine XS.iconst X46.here hx rfl (hb hby at_222) ?_
    refine XS.goto X46.here hx rfl (pc0 := 223) (pc' := 227) rfl (hb hby at_223) (by decide) (by decide) ?_
    exact Steps.refl _)
  obtain ⟨fs, hr, hrun, hended, hW⟩ := X46.leaveW hS25 (by rw [eq46]; exact (Nat.le_refl _)) (v := some (.int 1)) (fun h => by rw [Bd.returns] at h; cases h)
  refine ⟨_, _, c48.trans (retOut X46 hx Bd.returns rfl (Or.inl ⟨rfl, by simp, _, rfl⟩) (hb hby at_227) hr), hrun, hended, _, _, rfl, ?_, ?_, hW.1, hW.2.1, hW.2.2.1, hW.2.2.2.mono (by first | decide | exact Nat.le_of_ble_eq_true rfl) (by first | decide | exact Nat.le_of_ble_eq_true rfl)⟩
  · show Q0 Z  h0 n0 _ T46.heap _
    rw [eq46]
    exact ⟨rfl, N46⟩
  · show CHr Z EL s.vm s.heap T46.vm T46.heap
    rw [hh, eq46]; exact R25.trans (CHv.at X46 hZ25 hEL R25.1)

set_option maxRecDepth 65536 in
set_option maxHeartbeats 40000000 in
theorem comes_1 {Post : Tables → Env → Array Value → State → Outcome → State → Prop} (hpost : ∀ tb e args s v u, (limb_1_1.after args s (.returned v) u = true ∧ limb_1_2.after args s (.returned v) u = true ∧ True) → ReturnedEndW s (.returned v) u (Jvm.fieldLocs frame_1_writes args s ++ Jvm.arrayLocs frame_1_arrays args s ++ Jvm.staticLocs frame_1_statics s) 40 4288 → Post tb e args s (.returned v) u) :
    ArmFor flags0 classFile x code maxLocals ret World_1 tables_1 room_1 Calls_1 rest_1 Pre_1 Post := by
  intro l hfl _ _ p e ha hc hk s m args below hf hA hF happ hP
  obtain ⟨hcalls, hrest, hpre⟩ := hP
  obtain ⟨-, -, -, hnamed, -, -, -, hat⟩ := (Spec.applies_iff hf).mp happ
  obtain ⟨hg, hn⟩ := and_e (Cond.before_iff.mp (show (Jvm.Cond.and given_1 narrow_1).before args s = true from hpre))
  obtain ⟨hcnt, hr1⟩ := and_e hg
  obtain ⟨ga0, hr2⟩ := and_e hr1
  obtain ⟨ga1, hr3⟩ := and_e hr2
  obtain ⟨ga2, hr4⟩ := and_e hr3
  obtain ⟨ga3, hr5⟩ := and_e hr4
  obtain ⟨w0, w1, w2, w3, w4, rfl⟩ : ∃ w0 w1 w2 w3 w4 : Value, args = #[w0, w1, w2, w3, w4] := by
    have hs : args.size = 5 := by simpa [Cond.value, given_1] using hcnt
    obtain ⟨L⟩ := args
    match L, hs with
    | [w0, w1, w2, w3, w4], _ => exact ⟨w0, w1, w2, w3, w4, rfl⟩
  have hw := fun d (hd : d ∈ tables_1) => atoms_spec (ws := Jvm.Cond.code x code maxLocals ret :: tables_1) hat d (List.mem_cons_of_mem _ hd)
  have hfit : Fit s := fun {y c} hc i hi => by
    obtain ⟨ha, rfl⟩ := Array.getElem?_eq_some_iff.mp hc
    have q := List.all_eq_true.mp ((Array.all_eq_true_iff_forall_mem.mp hF) _ (Array.getElem_mem ha)) i (List.mem_range.mpr hi)
    simpa [Array.getElem?_eq_getElem hi] using q
  obtain ⟨hsets, hown0⟩ := atoms_of _ (rest_1_c_eq ▸ (show rest_1_c.before _ s = true from hrest))
  obtain ⟨i0, ei0⟩ := is_v ga0
  obtain rfl : w0 = (.int i0) := Option.some.inj ei0
  obtain ⟨i1, ei1⟩ := is_v ga1
  obtain rfl : w1 = (.int i1) := Option.some.inj ei1
  obtain ⟨i2, ei2⟩ := is_v ga2
  obtain rfl : w2 = (.int i2) := Option.some.inj ei2
  obtain ⟨i3, ei3⟩ := is_v ga3
  obtain rfl : w3 = (.int i3) := Option.some.inj ei3
  obtain ⟨i4, ei4⟩ := is_v hr5
  obtain rfl : w4 = (.int i4) := Option.some.inj ei4
  have n3 := not_v (Cond.before_iff.mp (hsets _ (List.mem_of_getElem? (i := 2) rfl)))
  obtain ⟨G1, eG1⟩ := is_v (Cond.before_iff.mp (hsets _ (List.mem_of_getElem? (i := 1) rfl)))
  have O2 : Sta s s.heap "java/lang/String" "COMPACT_STRINGS" "Z" (.int G1) := Sta.start eG1 (Or.inl (hsets _ (List.mem_of_getElem? (i := 0) rfl)))
  have P5 : ¬ (G1 = (0 : Int32)) := gotF (Cond.eq_ints eG1 (Term.int_eval (0))) n3
  obtain ⟨G3, eG3, rG3⟩ := isR_v (Cond.before_iff.mp (hsets _ (List.mem_of_getElem? (i := 8) rfl)))
  have O4 : Sta s s.heap "jdk/internal/util/Preconditions" "SIOOBE_FORMATTER" "Ljava/util/function/BiFunction;" G3 := Sta.start eG3 (Or.inl (hsets _ (List.mem_of_getElem? (i := 7) rfl)))
  obtain ⟨n, o, h1, h2, h3, _, L, rfl, ⟨rfl, N⟩, -, hq⟩ := rm0 l s _ hw tables_1 i0 i1 i2 i3 i4 G1 G3 s.heap s.heap.size (Nat.le_refl _) O2 P5 (Old.start s) O4 rG3 p e ha hc hk s m _ below hf ((Spec.applies_iff_loose hf).mp happ).1 ⟨rfl, State.Warmed39.refl s, rfl, own_CH hw hcalls.1 (hsets _ (List.mem_of_getElem? (i := 2) rfl))⟩ trivial
  refine ⟨n, _, h1, h2, h3, hpost _ _ _ _ _ _ ⟨Cond.after_iff.mpr rfl, Cond.after_iff.mpr (eq_i res_at (Term.int_eval (1)) rfl), trivial⟩ ⟨hq.1, hq.2.1, hq.2.2.1, (hq.2.2.2.sift fun y hy => Or.inr (N y hy)).mono (by decide) (by decide)⟩⟩
theorem main_1_1 : Claimed_1_1 := comes_1 fun _ _ _ _ _ _ h hF => ⟨h.1, hF⟩
theorem main_1_2 : Claimed_1_2 := comes_1 fun _ _ _ _ _ _ h hF => ⟨h.2.1, hF⟩
end Jvm.Pilot.@@N@@
namespace Jvm.Pilot.@@N@@
open Jvm Jvm.ClassFile Sem Op Lib Jvm.Free Jvm.Stand Jvm.Pilot.@@N@@.Jvm.D
/-! MADE BY PROGRAM (witnessworld.py) out of the Statement's table words and the real class files: 27 classes; the members and pool entries that the words name. The judged class is class 1, her method 1. -/
namespace start1
open Jvm.ClassFile
def u (s : String) : CpInfo := .utf8 (stringToUtf16 s)
/-- a pool by its gaps: so many unusable entries, then the entry; so many at the end -/
def gap : Nat → List CpInfo → List CpInfo
  | 0, r => r
  | n + 1, r => .unusable :: gap n r
def poolList (es : List (Nat × CpInfo)) (last : Nat) : List CpInfo := es.foldr (fun e r => gap e.1 (e.2 :: r)) (gap last [])
def pool (es : List (Nat × CpInfo)) (last : Nat) : Array CpInfo := ⟨poolList es last⟩
def fileOf (pool : Array CpInfo) (this : Nat) (attrs : Array Attribute := #[]) (ms : Array MethodInfo := #[]) (fl : Nat := 33) (sup : Nat := 0) (ifs : Array Nat := #[]) (fds : Array FieldInfo := #[]) : ClassFile where
  minorVersion := 0
  majorVersion := 65
  constantPool := pool
  accessFlags := fl
  thisClass := this
  superClass := sup
  interfaces := ifs
  fields := fds
  methods := ms
  attributes := attrs
def plain (name : String) (sup : Option ClassId) : Class where
  name := name
  kind := .ordinary
  loader := none
  accessFlags := 33
  super := sup
  interfaces := #[]
  cf := none
  fields := #[]
  methods := #[]
  instanceTypes := #[]
  staticTypes := #[]
  resolved := #[]
  callSites := []
  init := .initialized
  statics := none
  mirror := none

def pool0 : Array CpInfo := pool [(5, u "<init>"), (0, u "()V"), (1, .class_ 10), (1, u "java/lang/Object")] 113

def k0c0 : Code := { maxStack := 0, maxLocals := 1, code := object_method_1_code, exceptionTable := #[], attributes := #[] }
def k0m0 : Method := { name := "<init>", desc := "()V", sig := { parameters := [], returnType := none }, accessFlags := 1, code := some k0c0 }
/-- java/lang/Object -/
def k0 : Class := { plain "java/lang/Object" none with
  accessFlags := 33
  interfaces := #[]
  cf := some (fileOf pool0 8 #[] #[{ accessFlags := 1, nameIndex := 5, descriptorIndex := 6, attributes := #[] }] 33 0 #[] #[])
  fields := #[]
  methods := #[k0m0]
  instanceTypes := #[]
  staticTypes := #[]
  resolved := Array.replicate 124 none
  statics := none }

def pool1 : Array CpInfo := pool [(2, .class_ 4), (1, u "java/lang/Object"), (0, u "<init>"), (0, u "()V"), (0, .integer 2147483647), (0, .methodref 9 10), (0, .class_ 11), (0, .nameAndType 12 13), (0, u "com/example/evenkeel/evenkeel/RouteToStringPinLaw"), (0, u "mk"), (0, u "(ICC)Ljava/lang/String;"), (0, .class_ 15), (0, u "com/example/evenkeel/evenkeel/Route"), (0, .methodref 14 17), (0, .nameAndType 5 18), (0, u "(Ljava/lang/String;Ljava/lang/String;)V"), (0, .methodref 14 20), (0, .nameAndType 21 22), (0, u "toString"), (0, u "()Ljava/lang/String;"), (0, .methodref 24 25), (0, .class_ 26), (0, .nameAndType 27 28), (0, u "java/lang/String"), (0, u "length"), (0, u "()I"), (0, .methodref 9 30), (0, .nameAndType 31 32), (0, u "at"), (0, u "(Ljava/lang/String;IIICCCC)Z"), (0, .methodref 24 34), (0, .nameAndType 5 35), (0, u "([C)V"), (0, .methodref 24 37), (0, .nameAndType 38 39), (0, u "charAt"), (0, u "(I)C"), (2, u "law"), (0, u "(IIIII)Z")] 3

def k1m0 : Method := { name := "<init>", desc := "()V", sig := { parameters := [], returnType := none }, accessFlags := 1, code := none }
def k1c1 : Code := { maxStack := 8, maxLocals := 15, code := code, exceptionTable := #[], attributes := #[] }
def k1m1 : Method := { name := "law", desc := "(IIIII)Z", sig := { parameters := [.int, .int, .int, .int, .int], returnType := some .boolean }, accessFlags := 9, code := some k1c1 }
def k1c2 : Code := { maxStack := 6, maxLocals := 3, code := method_3_code, exceptionTable := #[], attributes := #[] }
def k1m2 : Method := { name := "mk", desc := "(ICC)Ljava/lang/String;", sig := { parameters := [.int, .char, .char], returnType := some (.object "java/lang/String") }, accessFlags := 10, code := some k1c2 }
def k1c3 : Code := { maxStack := 2, maxLocals := 10, code := method_4_code, exceptionTable := #[], attributes := #[] }
def k1m3 : Method := { name := "at", desc := "(Ljava/lang/String;IIICCCC)Z", sig := { parameters := [(.object "java/lang/String"), .int, .int, .int, .char, .char, .char, .char], returnType := some .boolean }, accessFlags := 10, code := some k1c3 }
/-- com/example/evenkeel/evenkeel/RouteToStringPinLaw -/
def k1 : Class := { plain "com/example/evenkeel/evenkeel/RouteToStringPinLaw" (some 0) with
  accessFlags := 49
  interfaces := #[]
  cf := some (fileOf pool1 9 #[] #[{ accessFlags := 1, nameIndex := 5, descriptorIndex := 6, attributes := #[] }, { accessFlags := 9, nameIndex := 42, descriptorIndex := 43, attributes := #[] }, { accessFlags := 10, nameIndex := 12, descriptorIndex := 13, attributes := #[] }, { accessFlags := 10, nameIndex := 31, descriptorIndex := 32, attributes := #[] }] 49 2 #[] #[])
  fields := #[]
  methods := #[k1m0, k1m1, k1m2, k1m3]
  instanceTypes := #[]
  staticTypes := #[]
  resolved := Array.replicate 47 none
  statics := none }

def pool2 : Array CpInfo := pool [(1, .class_ 2), (0, u "java/io/Serializable"), (0, .class_ 4), (0, u "java/lang/Object")] 2

/-- java/io/Serializable -/
def k2 : Class := { plain "java/io/Serializable" (some 0) with
  accessFlags := 1537
  interfaces := #[]
  cf := some (fileOf pool2 1 #[] #[] 1537 3 #[] #[])
  fields := #[]
  methods := #[]
  instanceTypes := #[]
  staticTypes := #[]
  resolved := Array.replicate 7 none
  statics := none }

def pool3 : Array CpInfo := pool [(1, .class_ 2), (0, u "java/lang/Comparable"), (0, .class_ 4), (0, u "java/lang/Object")] 7

/-- java/lang/Comparable -/
def k3 : Class := { plain "java/lang/Comparable" (some 0) with
  accessFlags := 1537
  interfaces := #[]
  cf := some (fileOf pool3 1 #[] #[] 1537 3 #[] #[])
  fields := #[]
  methods := #[]
  instanceTypes := #[]
  staticTypes := #[]
  resolved := Array.replicate 12 none
  statics := none }

def pool4 : Array CpInfo := pool [(2, .class_ 4), (1, u "java/lang/CharSequence"), (42, .class_ 48), (0, u "java/lang/CharSequence$1CodePointIterator"), (10, .class_ 60), (0, u "java/lang/CharSequence$1CharIterator"), (5, .class_ 67), (0, u "java/lang/Object")] 63

/-- java/lang/CharSequence -/
def k4 : Class := { plain "java/lang/CharSequence" (some 0) with
  accessFlags := 1537
  interfaces := #[]
  cf := some (fileOf pool4 2 #[.nestMembers #[47, 59]] #[] 1537 66 #[] #[])
  fields := #[]
  methods := #[]
  instanceTypes := #[]
  staticTypes := #[]
  resolved := Array.replicate 131 none
  statics := none }

def pool5 : Array CpInfo := pool [(1, .class_ 2), (0, u "java/lang/constant/Constable"), (0, .class_ 4), (0, u "java/lang/Object")] 6

/-- java/lang/constant/Constable -/
def k5 : Class := { plain "java/lang/constant/Constable" (some 0) with
  accessFlags := 1537
  interfaces := #[]
  cf := some (fileOf pool5 1 #[] #[] 1537 3 #[] #[])
  fields := #[]
  methods := #[]
  instanceTypes := #[]
  staticTypes := #[]
  resolved := Array.replicate 11 none
  statics := none }

def pool6 : Array CpInfo := pool [(1, .class_ 2), (0, u "java/lang/constant/ConstantDesc"), (0, .class_ 4), (0, u "java/lang/Object")] 32

/-- java/lang/constant/ConstantDesc -/
def k6 : Class := { plain "java/lang/constant/ConstantDesc" (some 0) with
  accessFlags := 1537
  interfaces := #[]
  cf := some (fileOf pool6 1 #[] #[] 1537 3 #[] #[])
  fields := #[]
  methods := #[]
  instanceTypes := #[]
  staticTypes := #[]
  resolved := Array.replicate 37 none
  statics := none }

def pool7 : Array CpInfo := pool [(1, .methodref 2 3), (0, .class_ 4), (0, .nameAndType 5 6), (0, u "java/lang/Object"), (0, u "<init>"), (0, u "()V"), (0, .string 8), (0, u ""), (0, .fieldref 10 11), (0, .class_ 12), (0, .nameAndType 13 14), (0, u "java/lang/String"), (0, u "value"), (0, u "[B"), (0, .fieldref 10 16), (0, .nameAndType 17 18), (0, u "coder"), (0, u "B"), (0, .fieldref 10 20), (0, .nameAndType 21 22), (0, u "hash"), (0, u "I"), (0, .fieldref 10 24), (0, .nameAndType 25 26), (0, u "hashIsZero"), (0, u "Z"), (0, .methodref 10 28), (0, .nameAndType 5 29), (0, u "([CIILjava/lang/Void;)V"), (8, .fieldref 10 39), (0, .nameAndType 40 26), (0, u "COMPACT_STRINGS"), (1, .class_ 44), (1, u "java/lang/StringUTF16"), (0, u "compress"), (1, .methodref 42 48), (0, .nameAndType 49 50), (0, u "coderFromArrayLen"), (0, u "([BI)B"), (3, .methodref 55 56), (0, .class_ 57), (0, .nameAndType 58 59), (0, u "java/util/Arrays"), (0, u "copyOfRange"), (0, u "([BII)[B"), (47, .class_ 109), (1, u "java/lang/StringLatin1"), (32, u "()Z"), (34, .methodref 42 178), (0, .nameAndType 45 179), (0, u "([CII)[B"), (13, .class_ 195), (1, u "java/lang/System"), (16, .methodref 193 213), (0, .nameAndType 214 215), (0, u "arraycopy"), (0, u "(Ljava/lang/Object;ILjava/lang/Object;II)V"), (118, u "()I"), (0, .methodref 10 336), (0, .nameAndType 17 337), (0, u "()B"), (2, u "()[B"), (22, u "([BI)C"), (27, u "(II)V"), (35, u "(I)C"), (61, .methodref 10 490), (0, .nameAndType 5 491), (0, u "(Ljava/lang/AbstractStringBuilder;Ljava/lang/Void;)V"), (0, .methodref 10 493), (0, .nameAndType 494 142), (0, u "isLatin1"), (0, .methodref 107 496), (0, .nameAndType 497 363), (0, u "charAt"), (3, u "checkIndex"), (4, .nameAndType 507 334), (0, u "length"), (24, u "getBytes"), (16, .methodref 550 506), (0, .class_ 551), (0, u "java/lang/AbstractStringBuilder"), (0, .methodref 550 553), (0, .nameAndType 554 340), (0, u "getValue"), (20, .class_ 576), (0, u "java/lang/CharSequence"), (22, u "CASE_INSENSITIVE_ORDER"), (0, u "Ljava/util/Comparator;"), (27, .methodref 107 629), (0, .nameAndType 630 631), (0, u "hashCode"), (0, u "([B)I"), (189, u "([BIB)V"), (188, u "([C)V"), (36, .methodref 550 493), (5, .fieldref 1054 1055), (0, .class_ 1056), (0, .nameAndType 1057 1058), (0, u "jdk/internal/util/Preconditions"), (0, u "SIOOBE_FORMATTER"), (0, u "Ljava/util/function/BiFunction;"), (0, .methodref 1054 1060), (0, .nameAndType 501 1061), (0, u "(IILjava/util/function/BiFunction;)I"), (39, u "serialPersistentFields"), (0, u "[Ljava/io/ObjectStreamField;"), (0, .class_ 1104), (0, u "java/lang/String$CaseInsensitiveComparator"), (1, .class_ 1107), (0, u "java/io/Serializable"), (0, .class_ 1109), (0, u "java/lang/Comparable"), (0, .class_ 1111), (0, u "java/lang/constant/Constable"), (0, .class_ 1113), (0, u "java/lang/constant/ConstantDesc"), (2, u "serialVersionUID"), (0, u "J"), (3, u "REPL"), (0, u "C"), (2, u "LATIN1"), (1, u "UTF16"), (105, u "(Ljava/lang/StringBuilder;)V")] 217

def k7m0 : Method := { name := "<init>", desc := "()V", sig := { parameters := [], returnType := none }, accessFlags := 1, code := none }
def k7c1 : Code := { maxStack := 5, maxLocals := 2, code := jdk_42_method_3_code, exceptionTable := #[], attributes := #[] }
def k7m1 : Method := { name := "<init>", desc := "([C)V", sig := { parameters := [(.array .char)], returnType := none }, accessFlags := 1, code := some k7c1 }
def k7c2 : Code := { maxStack := 3, maxLocals := 2, code := jdk_42_method_53_code, exceptionTable := #[], attributes := #[] }
def k7m2 : Method := { name := "<init>", desc := "(Ljava/lang/StringBuilder;)V", sig := { parameters := [(.object "java/lang/StringBuilder")], returnType := none }, accessFlags := 1, code := some k7c2 }
def k7c3 : Code := { maxStack := 2, maxLocals := 1, code := jdk_42_method_54_code, exceptionTable := #[], attributes := #[] }
def k7m3 : Method := { name := "length", desc := "()I", sig := { parameters := [], returnType := some .int }, accessFlags := 1, code := some k7c3 }
def k7c4 : Code := { maxStack := 2, maxLocals := 2, code := jdk_42_method_56_code, exceptionTable := #[], attributes := #[] }
def k7m4 : Method := { name := "charAt", desc := "(I)C", sig := { parameters := [.int], returnType := some .char }, accessFlags := 1, code := some k7c4 }
def k7c5 : Code := { maxStack := 2, maxLocals := 2, code := jdk_42_method_78_code, exceptionTable := #[], attributes := #[] }
def k7m5 : Method := { name := "hashCode", desc := "()I", sig := { parameters := [], returnType := some .int }, accessFlags := 1, code := some k7c5 }
def k7c6 : Code := { maxStack := 5, maxLocals := 4, code := jdk_42_method_147_code, exceptionTable := #[], attributes := #[] }
def k7m6 : Method := { name := "getBytes", desc := "([BIB)V", sig := { parameters := [(.array .byte), .int, .byte], returnType := none }, accessFlags := 0, code := some k7c6 }
def k7c7 : Code := { maxStack := 4, maxLocals := 6, code := jdk_42_method_149_code, exceptionTable := #[], attributes := #[] }
def k7m7 : Method := { name := "<init>", desc := "([CIILjava/lang/Void;)V", sig := { parameters := [(.array .char), .int, .int, (.object "java/lang/Void")], returnType := none }, accessFlags := 2, code := some k7c7 }
def k7c8 : Code := { maxStack := 5, maxLocals := 5, code := jdk_42_method_150_code, exceptionTable := #[], attributes := #[] }
def k7m8 : Method := { name := "<init>", desc := "(Ljava/lang/AbstractStringBuilder;Ljava/lang/Void;)V", sig := { parameters := [(.object "java/lang/AbstractStringBuilder"), (.object "java/lang/Void")], returnType := none }, accessFlags := 0, code := some k7c8 }
def k7c9 : Code := { maxStack := 1, maxLocals := 1, code := jdk_42_method_152_code, exceptionTable := #[], attributes := #[] }
def k7m9 : Method := { name := "coder", desc := "()B", sig := { parameters := [], returnType := some .byte }, accessFlags := 0, code := some k7c9 }
def k7c10 : Code := { maxStack := 1, maxLocals := 1, code := jdk_42_method_154_code, exceptionTable := #[], attributes := #[] }
def k7m10 : Method := { name := "isLatin1", desc := "()Z", sig := { parameters := [], returnType := some .boolean }, accessFlags := 0, code := some k7c10 }
def k7c11 : Code := { maxStack := 3, maxLocals := 2, code := jdk_42_method_155_code, exceptionTable := #[], attributes := #[] }
def k7m11 : Method := { name := "checkIndex", desc := "(II)V", sig := { parameters := [.int, .int], returnType := none }, accessFlags := 8, code := some k7c11 }
/-- java/lang/String -/
def k7 : Class := { plain "java/lang/String" (some 0) with
  accessFlags := 49
  interfaces := #[2, 3, 4, 5, 6]
  cf := some (fileOf pool7 10 #[.nestMembers #[1103]] #[{ accessFlags := 1, nameIndex := 5, descriptorIndex := 6, attributes := #[] }, { accessFlags := 1, nameIndex := 5, descriptorIndex := 1010, attributes := #[] }, { accessFlags := 1, nameIndex := 5, descriptorIndex := 1233, attributes := #[] }, { accessFlags := 1, nameIndex := 507, descriptorIndex := 334, attributes := #[] }, { accessFlags := 1, nameIndex := 497, descriptorIndex := 427, attributes := #[] }, { accessFlags := 1, nameIndex := 630, descriptorIndex := 334, attributes := #[] }, { accessFlags := 0, nameIndex := 532, descriptorIndex := 821, attributes := #[] }, { accessFlags := 2, nameIndex := 5, descriptorIndex := 29, attributes := #[] }, { accessFlags := 0, nameIndex := 5, descriptorIndex := 491, attributes := #[] }, { accessFlags := 0, nameIndex := 17, descriptorIndex := 337, attributes := #[] }, { accessFlags := 0, nameIndex := 494, descriptorIndex := 142, attributes := #[] }, { accessFlags := 8, nameIndex := 501, descriptorIndex := 391, attributes := #[] }] 49 2 #[1106, 1108, 575, 1110, 1112] #[{ accessFlags := 18, nameIndex := 13, descriptorIndex := 14, attributes := #[] }, { accessFlags := 18, nameIndex := 17, descriptorIndex := 18, attributes := #[] }, { accessFlags := 2, nameIndex := 21, descriptorIndex := 22, attributes := #[] }, { accessFlags := 2, nameIndex := 25, descriptorIndex := 26, attributes := #[] }, { accessFlags := 26, nameIndex := 1116, descriptorIndex := 1117, attributes := #[] }, { accessFlags := 24, nameIndex := 40, descriptorIndex := 26, attributes := #[] }, { accessFlags := 26, nameIndex := 1101, descriptorIndex := 1102, attributes := #[] }, { accessFlags := 26, nameIndex := 1121, descriptorIndex := 1122, attributes := #[] }, { accessFlags := 25, nameIndex := 599, descriptorIndex := 600, attributes := #[] }, { accessFlags := 24, nameIndex := 1125, descriptorIndex := 18, attributes := #[] }, { accessFlags := 24, nameIndex := 1127, descriptorIndex := 18, attributes := #[] }])
  fields := #[{ name := "value", type := (.array .byte), accessFlags := 18, slot := 0, constantValue := 0 }, { name := "coder", type := .byte, accessFlags := 18, slot := 1, constantValue := 0 }, { name := "hash", type := .int, accessFlags := 2, slot := 2, constantValue := 0 }, { name := "hashIsZero", type := .boolean, accessFlags := 2, slot := 3, constantValue := 0 }, { name := "serialVersionUID", type := .long, accessFlags := 26, slot := 0, constantValue := 0 }, { name := "COMPACT_STRINGS", type := .boolean, accessFlags := 24, slot := 1, constantValue := 0 }, { name := "serialPersistentFields", type := (.array (.object "java/io/ObjectStreamField")), accessFlags := 26, slot := 2, constantValue := 0 }, { name := "REPL", type := .char, accessFlags := 26, slot := 3, constantValue := 0 }, { name := "CASE_INSENSITIVE_ORDER", type := (.object "java/util/Comparator"), accessFlags := 25, slot := 4, constantValue := 0 }, { name := "LATIN1", type := .byte, accessFlags := 24, slot := 5, constantValue := 0 }, { name := "UTF16", type := .byte, accessFlags := 24, slot := 6, constantValue := 0 }]
  methods := #[k7m0, k7m1, k7m2, k7m3, k7m4, k7m5, k7m6, k7m7, k7m8, k7m9, k7m10, k7m11]
  instanceTypes := #[(.array .byte), .byte, .int, .boolean]
  staticTypes := #[.long, .boolean, (.array (.object "java/io/ObjectStreamField")), .char, (.object "java/util/Comparator"), .byte, .byte]
  resolved := Array.replicate 1451 none
  statics := some 0 }

def pool8 : Array CpInfo := pool [(1, .methodref 2 3), (0, .class_ 4), (0, .nameAndType 5 6), (0, u "java/lang/Object"), (0, u "<init>"), (0, u "()V"), (0, .string 8), (0, u "service"), (0, .methodref 10 11), (0, .class_ 12), (0, .nameAndType 13 14), (0, u "java/util/Objects"), (0, u "requireNonNull"), (0, u "(Ljava/lang/Object;Ljava/lang/String;)Ljava/lang/Object;"), (0, .class_ 16), (0, u "java/lang/String"), (0, .fieldref 18 19), (0, .class_ 20), (0, .nameAndType 8 21), (0, u "com/example/evenkeel/evenkeel/Route"), (0, u "Ljava/lang/String;"), (0, .string 23), (0, u "method"), (0, .fieldref 18 25), (0, .nameAndType 23 21), (0, .methodref 15 27), (0, .nameAndType 28 29), (0, u "hashCode"), (0, u "()I"), (0, .fieldref 18 31), (0, .nameAndType 32 33), (0, u "hash"), (0, u "I"), (4, .class_ 39), (0, u "java/lang/StringBuilder"), (0, .methodref 38 3), (0, .methodref 38 42), (0, .nameAndType 43 44), (0, u "append"), (0, u "(Ljava/lang/String;)Ljava/lang/StringBuilder;"), (0, .string 46), (0, u "."), (0, .methodref 38 48), (0, .nameAndType 49 50), (0, u "toString"), (0, u "()Ljava/lang/String;"), (0, u "(Ljava/lang/String;Ljava/lang/String;)V")] 5

def k8c0 : Code := { maxStack := 3, maxLocals := 3, code := prog_27_method_1_code, exceptionTable := #[], attributes := #[] }
def k8m0 : Method := { name := "<init>", desc := "(Ljava/lang/String;Ljava/lang/String;)V", sig := { parameters := [(.object "java/lang/String"), (.object "java/lang/String")], returnType := none }, accessFlags := 0, code := some k8c0 }
def k8c1 : Code := { maxStack := 2, maxLocals := 1, code := prog_27_method_6_code, exceptionTable := #[], attributes := #[] }
def k8m1 : Method := { name := "toString", desc := "()Ljava/lang/String;", sig := { parameters := [], returnType := some (.object "java/lang/String") }, accessFlags := 1, code := some k8c1 }
/-- com/example/evenkeel/evenkeel/Route -/
def k8 : Class := { plain "com/example/evenkeel/evenkeel/Route" (some 0) with
  accessFlags := 48
  interfaces := #[]
  cf := some (fileOf pool8 18 #[] #[{ accessFlags := 0, nameIndex := 5, descriptorIndex := 51, attributes := #[] }, { accessFlags := 1, nameIndex := 49, descriptorIndex := 50, attributes := #[] }] 48 2 #[] #[{ accessFlags := 18, nameIndex := 8, descriptorIndex := 21, attributes := #[] }, { accessFlags := 18, nameIndex := 23, descriptorIndex := 21, attributes := #[] }, { accessFlags := 18, nameIndex := 32, descriptorIndex := 33, attributes := #[] }])
  fields := #[{ name := "service", type := (.object "java/lang/String"), accessFlags := 18, slot := 0, constantValue := 0 }, { name := "method", type := (.object "java/lang/String"), accessFlags := 18, slot := 1, constantValue := 0 }, { name := "hash", type := .int, accessFlags := 18, slot := 2, constantValue := 0 }]
  methods := #[k8m0, k8m1]
  instanceTypes := #[(.object "java/lang/String"), (.object "java/lang/String"), .int]
  staticTypes := #[]
  resolved := Array.replicate 57 none
  statics := none }

def pool9 : Array CpInfo := pool [(2, .class_ 4), (1, u "java/lang/Object"), (0, u "<init>"), (0, u "()V"), (35, .class_ 44), (1, u "java/util/Objects"), (0, u "requireNonNull"), (48, u "(Ljava/lang/Object;Ljava/lang/String;)Ljava/lang/Object;")] 89

def k9m0 : Method := { name := "<init>", desc := "()V", sig := { parameters := [], returnType := none }, accessFlags := 2, code := none }
def k9c1 : Code := { maxStack := 3, maxLocals := 2, code := jdk_31_method_11_code, exceptionTable := #[], attributes := #[] }
def k9m1 : Method := { name := "requireNonNull", desc := "(Ljava/lang/Object;Ljava/lang/String;)Ljava/lang/Object;", sig := { parameters := [(.object "java/lang/Object"), (.object "java/lang/String")], returnType := some (.object "java/lang/Object") }, accessFlags := 9, code := some k9c1 }
/-- java/util/Objects -/
def k9 : Class := { plain "java/util/Objects" (some 0) with
  accessFlags := 49
  interfaces := #[]
  cf := some (fileOf pool9 42 #[] #[{ accessFlags := 2, nameIndex := 5, descriptorIndex := 6, attributes := #[] }, { accessFlags := 9, nameIndex := 45, descriptorIndex := 94, attributes := #[] }] 49 2 #[] #[])
  fields := #[]
  methods := #[k9m0, k9m1]
  instanceTypes := #[]
  staticTypes := #[]
  resolved := Array.replicate 184 none
  statics := none }

def pool10 : Array CpInfo := pool [(1, .class_ 2), (0, u "java/lang/String"), (1, .class_ 6), (1, u "java/lang/Object"), (0, u "<init>"), (0, u "()V"), (0, .methodref 1 10), (0, .nameAndType 11 12), (0, u "checkIndex"), (0, u "(II)V"), (1, .class_ 16), (1, u "java/lang/StringLatin1"), (28, .class_ 47), (1, u "jdk/internal/util/ArraysSupport"), (5, u "([BI)C"), (3, u "([B)I"), (26, .methodref 45 85), (0, .nameAndType 86 87), (0, u "vectorizedHashCode"), (0, u "(Ljava/lang/Object;IIII)I"), (33, u "$assertionsDisabled"), (0, u "Z"), (98, .class_ 223), (1, u "java/lang/StringLatin1$LinesSpliterator"), (28, u "charAt"), (45, u "hashCode"), (91, .class_ 391), (0, u "java/lang/StringLatin1$CharsSpliterator")] 3

def k10m0 : Method := { name := "<init>", desc := "()V", sig := { parameters := [], returnType := none }, accessFlags := 0, code := none }
def k10c1 : Code := { maxStack := 2, maxLocals := 2, code := jdk_43_method_2_code, exceptionTable := #[], attributes := #[] }
def k10m1 : Method := { name := "charAt", desc := "([BI)C", sig := { parameters := [(.array .byte), .int], returnType := some .char }, accessFlags := 9, code := some k10c1 }
def k10c2 : Code := { maxStack := 5, maxLocals := 1, code := jdk_43_method_21_code, exceptionTable := #[], attributes := #[] }
def k10m2 : Method := { name := "hashCode", desc := "([B)I", sig := { parameters := [(.array .byte)], returnType := some .int }, accessFlags := 9, code := some k10c2 }
/-- java/lang/StringLatin1 -/
def k10 : Class := { plain "java/lang/StringLatin1" (some 0) with
  accessFlags := 48
  interfaces := #[]
  cf := some (fileOf pool10 14 #[.nestMembers #[390, 221]] #[{ accessFlags := 0, nameIndex := 7, descriptorIndex := 8, attributes := #[] }, { accessFlags := 9, nameIndex := 252, descriptorIndex := 53, attributes := #[] }, { accessFlags := 9, nameIndex := 298, descriptorIndex := 57, attributes := #[] }] 48 4 #[] #[{ accessFlags := 4120, nameIndex := 121, descriptorIndex := 122, attributes := #[] }])
  fields := #[{ name := "$assertionsDisabled", type := .boolean, accessFlags := 4120, slot := 0, constantValue := 0 }]
  methods := #[k10m0, k10m1, k10m2]
  instanceTypes := #[]
  staticTypes := #[.boolean]
  resolved := Array.replicate 395 none
  statics := none }

def pool11 : Array CpInfo := pool [(1, .class_ 2), (0, u "java/lang/Appendable"), (0, .class_ 4), (0, u "java/lang/Object")] 9

/-- java/lang/Appendable -/
def k11 : Class := { plain "java/lang/Appendable" (some 0) with
  accessFlags := 1537
  interfaces := #[]
  cf := some (fileOf pool11 1 #[] #[] 1537 3 #[] #[])
  fields := #[]
  methods := #[]
  instanceTypes := #[]
  staticTypes := #[]
  resolved := Array.replicate 14 none
  statics := none }

def pool12 : Array CpInfo := pool [(1, .class_ 2), (0, u "java/lang/String"), (0, .methodref 4 5), (0, .class_ 6), (0, .nameAndType 7 8), (0, u "java/lang/Object"), (0, u "<init>"), (0, u "()V"), (1, .class_ 12), (1, u "java/lang/AbstractStringBuilder"), (0, u "EMPTYVALUE"), (0, u "[B"), (0, .fieldref 10 16), (0, .nameAndType 17 14), (0, u "value"), (0, .fieldref 1 19), (0, .nameAndType 20 21), (0, u "COMPACT_STRINGS"), (0, u "Z"), (0, .fieldref 10 23), (0, .nameAndType 24 25), (0, u "coder"), (0, u "B"), (6, .methodref 1 33), (0, .nameAndType 34 35), (0, u "length"), (0, u "()I"), (4, .methodref 1 41), (0, .nameAndType 24 42), (0, u "()B"), (2, u "append"), (0, u "(Ljava/lang/String;)Ljava/lang/AbstractStringBuilder;"), (1, .class_ 49), (0, u "java/lang/CharSequence"), (19, u "(Ljava/lang/String;)V"), (5, u "maybeLatin1"), (3, .fieldref 10 80), (0, .nameAndType 81 82), (0, u "count"), (0, u "I"), (2, u "isLatin1"), (0, u "()Z"), (13, .methodref 10 101), (0, .nameAndType 102 103), (0, u "ensureCapacityInternal"), (0, u "(I)V"), (104, .methodref 10 209), (0, .nameAndType 210 211), (0, u "putStringAt"), (0, u "(ILjava/lang/String;)V"), (5, u "inflateIfNeededFor"), (2, .nameAndType 221 222), (0, u "getBytes"), (0, u "([BIB)V"), (174, .methodref 10 398), (0, .nameAndType 217 69), (0, .methodref 1 220), (3, u "()[B"), (40, .class_ 445), (0, u "java/lang/Appendable"), (106, u "getValue")] 56

def k12m0 : Method := { name := "<init>", desc := "()V", sig := { parameters := [], returnType := none }, accessFlags := 0, code := none }
def k12c1 : Code := { maxStack := 2, maxLocals := 2, code := jdk_68_method_2_code, exceptionTable := #[], attributes := #[] }
def k12m1 : Method := { name := "<init>", desc := "(I)V", sig := { parameters := [.int], returnType := none }, accessFlags := 0, code := some k12c1 }
def k12c2 : Code := { maxStack := 1, maxLocals := 1, code := jdk_68_method_6_code, exceptionTable := #[], attributes := #[] }
def k12m2 : Method := { name := "length", desc := "()I", sig := { parameters := [], returnType := some .int }, accessFlags := 1, code := some k12c2 }
def k12c3 : Code := { maxStack := 4, maxLocals := 3, code := jdk_68_method_9_code, exceptionTable := #[], attributes := #[] }
def k12m3 : Method := { name := "ensureCapacityInternal", desc := "(I)V", sig := { parameters := [.int], returnType := none }, accessFlags := 2, code := some k12c3 }
def k12c4 : Code := { maxStack := 3, maxLocals := 3, code := jdk_68_method_22_code, exceptionTable := #[], attributes := #[] }
def k12m4 : Method := { name := "append", desc := "(Ljava/lang/String;)Ljava/lang/AbstractStringBuilder;", sig := { parameters := [(.object "java/lang/String")], returnType := some (.object "java/lang/AbstractStringBuilder") }, accessFlags := 1, code := some k12c4 }
def k12c5 : Code := { maxStack := 1, maxLocals := 1, code := jdk_68_method_64_code, exceptionTable := #[], attributes := #[] }
def k12m5 : Method := { name := "getValue", desc := "()[B", sig := { parameters := [], returnType := some (.array .byte) }, accessFlags := 16, code := some k12c5 }
def k12c6 : Code := { maxStack := 1, maxLocals := 1, code := jdk_68_method_68_code, exceptionTable := #[], attributes := #[] }
def k12m6 : Method := { name := "isLatin1", desc := "()Z", sig := { parameters := [], returnType := some .boolean }, accessFlags := 16, code := some k12c6 }
def k12c7 : Code := { maxStack := 2, maxLocals := 2, code := jdk_68_method_71_code, exceptionTable := #[], attributes := #[] }
def k12m7 : Method := { name := "inflateIfNeededFor", desc := "(Ljava/lang/String;)V", sig := { parameters := [(.object "java/lang/String")], returnType := none }, accessFlags := 2, code := some k12c7 }
def k12c8 : Code := { maxStack := 4, maxLocals := 3, code := jdk_68_method_73_code, exceptionTable := #[], attributes := #[] }
def k12m8 : Method := { name := "putStringAt", desc := "(ILjava/lang/String;)V", sig := { parameters := [.int, (.object "java/lang/String")], returnType := none }, accessFlags := 2, code := some k12c8 }
/-- java/lang/AbstractStringBuilder -/
def k12 : Class := { plain "java/lang/AbstractStringBuilder" (some 0) with
  accessFlags := 1056
  interfaces := #[11, 4]
  cf := some (fileOf pool12 10 #[] #[{ accessFlags := 0, nameIndex := 7, descriptorIndex := 8, attributes := #[] }, { accessFlags := 0, nameIndex := 7, descriptorIndex := 103, attributes := #[] }, { accessFlags := 1, nameIndex := 34, descriptorIndex := 35, attributes := #[] }, { accessFlags := 2, nameIndex := 102, descriptorIndex := 103, attributes := #[] }, { accessFlags := 1, nameIndex := 45, descriptorIndex := 46, attributes := #[] }, { accessFlags := 16, nameIndex := 552, descriptorIndex := 403, attributes := #[] }, { accessFlags := 16, nameIndex := 85, descriptorIndex := 86, attributes := #[] }, { accessFlags := 2, nameIndex := 217, descriptorIndex := 69, attributes := #[] }, { accessFlags := 2, nameIndex := 210, descriptorIndex := 211, attributes := #[] }] 1056 4 #[444, 48] #[{ accessFlags := 0, nameIndex := 17, descriptorIndex := 14, attributes := #[] }, { accessFlags := 0, nameIndex := 24, descriptorIndex := 25, attributes := #[] }, { accessFlags := 0, nameIndex := 75, descriptorIndex := 21, attributes := #[] }, { accessFlags := 0, nameIndex := 81, descriptorIndex := 82, attributes := #[] }, { accessFlags := 26, nameIndex := 13, descriptorIndex := 14, attributes := #[] }])
  fields := #[{ name := "value", type := (.array .byte), accessFlags := 0, slot := 0, constantValue := 0 }, { name := "coder", type := .byte, accessFlags := 0, slot := 1, constantValue := 0 }, { name := "maybeLatin1", type := .boolean, accessFlags := 0, slot := 2, constantValue := 0 }, { name := "count", type := .int, accessFlags := 0, slot := 3, constantValue := 0 }, { name := "EMPTYVALUE", type := (.array .byte), accessFlags := 26, slot := 0, constantValue := 0 }]
  methods := #[k12m0, k12m1, k12m2, k12m3, k12m4, k12m5, k12m6, k12m7, k12m8]
  instanceTypes := #[(.array .byte), .byte, .boolean, .int]
  staticTypes := #[(.array .byte)]
  resolved := Array.replicate 609 none
  statics := none }

def pool13 : Array CpInfo := pool [(1, .methodref 2 3), (0, .class_ 4), (0, .nameAndType 5 6), (0, u "java/lang/AbstractStringBuilder"), (0, u "<init>"), (0, u "(I)V"), (11, .class_ 20), (1, u "java/lang/String"), (3, .class_ 26), (1, u "java/lang/StringBuilder"), (0, u "append"), (0, u "(Ljava/lang/String;)Ljava/lang/StringBuilder;"), (0, .methodref 2 30), (0, .nameAndType 27 31), (0, u "(Ljava/lang/String;)Ljava/lang/AbstractStringBuilder;"), (105, .methodref 18 138), (0, .nameAndType 5 139), (0, u "(Ljava/lang/StringBuilder;)V"), (5, u "()V"), (10, u "()I"), (186, .methodref 2 344), (0, .nameAndType 345 156), (0, u "length"), (3, .class_ 350), (0, u "java/lang/Appendable"), (0, .class_ 352), (0, u "java/io/Serializable"), (0, .class_ 354), (0, u "java/lang/Comparable"), (0, .class_ 356), (0, u "java/lang/CharSequence"), (0, u "serialVersionUID"), (0, u "J"), (40, u "toString"), (0, u "()Ljava/lang/String;")] 21

def k13c0 : Code := { maxStack := 2, maxLocals := 1, code := jdk_67_method_1_code, exceptionTable := #[], attributes := #[] }
def k13m0 : Method := { name := "<init>", desc := "()V", sig := { parameters := [], returnType := none }, accessFlags := 1, code := some k13c0 }
def k13c1 : Code := { maxStack := 2, maxLocals := 2, code := jdk_67_method_7_code, exceptionTable := #[], attributes := #[] }
def k13m1 : Method := { name := "append", desc := "(Ljava/lang/String;)Ljava/lang/StringBuilder;", sig := { parameters := [(.object "java/lang/String")], returnType := some (.object "java/lang/StringBuilder") }, accessFlags := 1, code := some k13c1 }
def k13c2 : Code := { maxStack := 3, maxLocals := 1, code := jdk_67_method_42_code, exceptionTable := #[], attributes := #[] }
def k13m2 : Method := { name := "toString", desc := "()Ljava/lang/String;", sig := { parameters := [], returnType := some (.object "java/lang/String") }, accessFlags := 1, code := some k13c2 }
def k13c3 : Code := { maxStack := 1, maxLocals := 1, code := jdk_67_method_93_code, exceptionTable := #[], attributes := #[] }
def k13m3 : Method := { name := "length", desc := "()I", sig := { parameters := [], returnType := some .int }, accessFlags := 4161, code := some k13c3 }
/-- java/lang/StringBuilder -/
def k13 : Class := { plain "java/lang/StringBuilder" (some 12) with
  accessFlags := 49
  interfaces := #[11, 2, 3, 4]
  cf := some (fileOf pool13 24 #[] #[{ accessFlags := 1, nameIndex := 5, descriptorIndex := 145, attributes := #[] }, { accessFlags := 1, nameIndex := 27, descriptorIndex := 28, attributes := #[] }, { accessFlags := 1, nameIndex := 399, descriptorIndex := 400, attributes := #[] }, { accessFlags := 4161, nameIndex := 345, descriptorIndex := 156, attributes := #[] }] 49 2 #[349, 351, 353, 355] #[{ accessFlags := 24, nameIndex := 357, descriptorIndex := 358, attributes := #[] }])
  fields := #[{ name := "serialVersionUID", type := .long, accessFlags := 24, slot := 0, constantValue := 0 }]
  methods := #[k13m0, k13m1, k13m2, k13m3]
  instanceTypes := #[(.array .byte), .byte, .boolean, .int]
  staticTypes := #[.long]
  resolved := Array.replicate 422 none
  statics := none }

def pool14 : Array CpInfo := pool [(2, .class_ 4), (1, u "java/lang/Object"), (0, u "<init>"), (0, u "()V"), (1, .class_ 10), (1, u "java/lang/System"), (0, u "allowSecurityManager"), (0, u "I"), (16, u "cons"), (0, u "Ljava/io/Console;"), (77, .class_ 110), (1, u "java/lang/System$CallersHolder"), (43, u "initialErrStream"), (0, u "Ljava/io/PrintStream;"), (19, u "security"), (0, u "Ljava/lang/SecurityManager;"), (31, .class_ 209), (0, u "java/lang/System$1"), (7, u "props"), (0, u "Ljava/util/Properties;"), (2, u "lineSeparator"), (0, u "Ljava/lang/String;"), (96, .class_ 321), (1, u "java/lang/System$LoggerFinder"), (5, .class_ 328), (0, u "java/lang/System$Logger"), (67, u "err"), (2, u "out"), (91, u "notSupportedJnuEncoding"), (15, u "in"), (17, u "initialIn"), (0, u "Ljava/io/InputStream;"), (35, u "bootLayer"), (0, u "Ljava/lang/ModuleLayer;"), (99, .class_ 664), (0, u "java/lang/System$2"), (9, u "NEVER"), (2, u "MAYBE"), (49, u "arraycopy"), (0, u "(Ljava/lang/Object;ILjava/lang/Object;II)V"), (72, .class_ 802), (0, u "java/lang/System$Logger$Level")] 31

def k14m0 : Method := { name := "<init>", desc := "()V", sig := { parameters := [], returnType := none }, accessFlags := 2, code := none }
def k14m1 : Method := { name := "arraycopy", desc := "(Ljava/lang/Object;ILjava/lang/Object;II)V", sig := { parameters := [(.object "java/lang/Object"), .int, (.object "java/lang/Object"), .int, .int], returnType := none }, accessFlags := 265, code := none }
/-- java/lang/System -/
def k14 : Class := { plain "java/lang/System" (some 0) with
  accessFlags := 49
  interfaces := #[]
  cf := some (fileOf pool14 8 #[.nestMembers #[319, 327, 801, 108, 663, 208]] #[{ accessFlags := 2, nameIndex := 5, descriptorIndex := 6, attributes := #[] }, { accessFlags := 265, nameIndex := 727, descriptorIndex := 728, attributes := #[] }] 49 2 #[] #[{ accessFlags := 25, nameIndex := 507, descriptorIndex := 526, attributes := #[] }, { accessFlags := 25, nameIndex := 399, descriptorIndex := 155, attributes := #[] }, { accessFlags := 25, nameIndex := 396, descriptorIndex := 155, attributes := #[] }, { accessFlags := 10, nameIndex := 525, descriptorIndex := 526, attributes := #[] }, { accessFlags := 26, nameIndex := 674, descriptorIndex := 12, attributes := #[] }, { accessFlags := 26, nameIndex := 677, descriptorIndex := 12, attributes := #[] }, { accessFlags := 10, nameIndex := 11, descriptorIndex := 12, attributes := #[] }, { accessFlags := 74, nameIndex := 175, descriptorIndex := 176, attributes := #[] }, { accessFlags := 10, nameIndex := 491, descriptorIndex := 222, attributes := #[] }, { accessFlags := 74, nameIndex := 29, descriptorIndex := 30, attributes := #[] }, { accessFlags := 74, nameIndex := 154, descriptorIndex := 155, attributes := #[] }, { accessFlags := 10, nameIndex := 217, descriptorIndex := 218, attributes := #[] }, { accessFlags := 10, nameIndex := 221, descriptorIndex := 222, attributes := #[] }, { accessFlags := 8, nameIndex := 562, descriptorIndex := 563, attributes := #[] }])
  fields := #[{ name := "in", type := (.object "java/io/InputStream"), accessFlags := 25, slot := 0, constantValue := 0 }, { name := "out", type := (.object "java/io/PrintStream"), accessFlags := 25, slot := 1, constantValue := 0 }, { name := "err", type := (.object "java/io/PrintStream"), accessFlags := 25, slot := 2, constantValue := 0 }, { name := "initialIn", type := (.object "java/io/InputStream"), accessFlags := 10, slot := 3, constantValue := 0 }, { name := "NEVER", type := .int, accessFlags := 26, slot := 4, constantValue := 0 }, { name := "MAYBE", type := .int, accessFlags := 26, slot := 5, constantValue := 0 }, { name := "allowSecurityManager", type := .int, accessFlags := 10, slot := 6, constantValue := 0 }, { name := "security", type := (.object "java/lang/SecurityManager"), accessFlags := 74, slot := 7, constantValue := 0 }, { name := "notSupportedJnuEncoding", type := (.object "java/lang/String"), accessFlags := 10, slot := 8, constantValue := 0 }, { name := "cons", type := (.object "java/io/Console"), accessFlags := 74, slot := 9, constantValue := 0 }, { name := "initialErrStream", type := (.object "java/io/PrintStream"), accessFlags := 74, slot := 10, constantValue := 0 }, { name := "props", type := (.object "java/util/Properties"), accessFlags := 10, slot := 11, constantValue := 0 }, { name := "lineSeparator", type := (.object "java/lang/String"), accessFlags := 10, slot := 12, constantValue := 0 }, { name := "bootLayer", type := (.object "java/lang/ModuleLayer"), accessFlags := 8, slot := 13, constantValue := 0 }]
  methods := #[k14m0, k14m1]
  instanceTypes := #[]
  staticTypes := #[(.object "java/io/InputStream"), (.object "java/io/PrintStream"), (.object "java/io/PrintStream"), (.object "java/io/InputStream"), .int, .int, .int, (.object "java/lang/SecurityManager"), (.object "java/lang/String"), (.object "java/io/Console"), (.object "java/io/PrintStream"), (.object "java/util/Properties"), (.object "java/lang/String"), (.object "java/lang/ModuleLayer")]
  resolved := Array.replicate 834 none
  statics := none }

def pool15 : Array CpInfo := pool [(2, .class_ 4), (1, u "java/lang/Object"), (0, u "<init>"), (0, u "()V"), (7, .class_ 16), (1, u "java/util/Arrays"), (57, .class_ 76), (1, u "java/util/Arrays$NaturalOrder"), (36, .class_ 115), (1, u "java/util/Arrays$LegacyMergeSort"), (1, u "Z"), (21, u "copyOfRange"), (10, .methodref 151 152), (0, .class_ 153), (0, .nameAndType 154 155), (0, u "java/lang/System"), (0, u "arraycopy"), (0, u "(Ljava/lang/Object;ILjava/lang/Object;II)V"), (148, .methodref 305 306), (0, .class_ 307), (0, .nameAndType 308 309), (0, u "java/lang/Math"), (0, u "min"), (0, u "(II)I"), (29, .methodref 14 340), (0, .nameAndType 341 342), (0, u "copyOfRangeByte"), (0, u "([BII)[B"), (0, .methodref 14 344), (0, .nameAndType 345 346), (0, u "checkLength"), (0, u "(II)V"), (28, .class_ 376), (0, u "java/util/Arrays$ArrayList"), (68, u "$assertionsDisabled"), (269, u "MIN_ARRAY_SORT_GRAN"), (0, u "I"), (2, u "INSERTIONSORT_THRESHOLD"), (255, .class_ 976), (0, u "java/util/Arrays$ArrayItr")] 52

def k15m0 : Method := { name := "<init>", desc := "()V", sig := { parameters := [], returnType := none }, accessFlags := 2, code := none }
def k15c1 : Code := { maxStack := 4, maxLocals := 2, code := jdk_65_method_131_code, exceptionTable := #[], attributes := #[] }
def k15m1 : Method := { name := "checkLength", desc := "(II)V", sig := { parameters := [.int, .int], returnType := none }, accessFlags := 10, code := some k15c1 }
def k15c2 : Code := { maxStack := 3, maxLocals := 3, code := jdk_65_method_132_code, exceptionTable := #[], attributes := #[] }
def k15m2 : Method := { name := "copyOfRange", desc := "([BII)[B", sig := { parameters := [(.array .byte), .int, .int], returnType := some (.array .byte) }, accessFlags := 9, code := some k15c2 }
def k15c3 : Code := { maxStack := 6, maxLocals := 5, code := jdk_65_method_133_code, exceptionTable := #[], attributes := #[] }
def k15m3 : Method := { name := "copyOfRangeByte", desc := "([BII)[B", sig := { parameters := [(.array .byte), .int, .int], returnType := some (.array .byte) }, accessFlags := 10, code := some k15c3 }
/-- java/util/Arrays -/
def k15 : Class := { plain "java/util/Arrays" (some 0) with
  accessFlags := 49
  interfaces := #[]
  cf := some (fileOf pool15 14 #[.nestMembers #[975, 375, 113, 74]] #[{ accessFlags := 2, nameIndex := 5, descriptorIndex := 6, attributes := #[] }, { accessFlags := 10, nameIndex := 345, descriptorIndex := 346, attributes := #[] }, { accessFlags := 9, nameIndex := 139, descriptorIndex := 342, attributes := #[] }, { accessFlags := 10, nameIndex := 341, descriptorIndex := 342, attributes := #[] }] 49 2 #[] #[{ accessFlags := 26, nameIndex := 715, descriptorIndex := 716, attributes := #[] }, { accessFlags := 26, nameIndex := 719, descriptorIndex := 716, attributes := #[] }, { accessFlags := 4120, nameIndex := 445, descriptorIndex := 117, attributes := #[] }])
  fields := #[{ name := "MIN_ARRAY_SORT_GRAN", type := .int, accessFlags := 26, slot := 0, constantValue := 0 }, { name := "INSERTIONSORT_THRESHOLD", type := .int, accessFlags := 26, slot := 1, constantValue := 0 }, { name := "$assertionsDisabled", type := .boolean, accessFlags := 4120, slot := 2, constantValue := 0 }]
  methods := #[k15m0, k15m1, k15m2, k15m3]
  instanceTypes := #[]
  staticTypes := #[.int, .int, .boolean]
  resolved := Array.replicate 1029 none
  statics := none }

def pool16 : Array CpInfo := pool [(1, .class_ 2), (0, u "java/lang/Math"), (1, .class_ 6), (1, u "java/lang/Object"), (0, u "<init>"), (0, u "()V"), (89, .class_ 100), (1, u "java/lang/Math$RandomNumberGeneratorHolder"), (71, u "negativeZeroFloatBits"), (0, u "J"), (2, u "negativeZeroDoubleBits"), (24, u "min"), (43, u "$assertionsDisabled"), (0, u "Z"), (88, u "(II)I"), (2, u "twoToTheDoubleScaleDown"), (0, u "D"), (4, u "twoToTheDoubleScaleUp"), (9, u "E"), (3, u "PI"), (2, u "TAU"), (2, u "DEGREES_TO_RADIANS"), (0, u "RADIANS_TO_DEGREES")] 94

def k16m0 : Method := { name := "<init>", desc := "()V", sig := { parameters := [], returnType := none }, accessFlags := 2, code := none }
def k16c1 : Code := { maxStack := 2, maxLocals := 2, code := jdk_29_method_69_code, exceptionTable := #[], attributes := #[] }
def k16m1 : Method := { name := "min", desc := "(II)I", sig := { parameters := [.int, .int], returnType := some .int }, accessFlags := 9, code := some k16c1 }
/-- java/lang/Math -/
def k16 : Class := { plain "java/lang/Math" (some 0) with
  accessFlags := 49
  interfaces := #[]
  cf := some (fileOf pool16 1 #[.nestMembers #[98]] #[{ accessFlags := 2, nameIndex := 7, descriptorIndex := 8, attributes := #[] }, { accessFlags := 9, nameIndex := 201, descriptorIndex := 335, attributes := #[] }] 49 4 #[] #[{ accessFlags := 25, nameIndex := 354, descriptorIndex := 339, attributes := #[] }, { accessFlags := 25, nameIndex := 358, descriptorIndex := 339, attributes := #[] }, { accessFlags := 25, nameIndex := 361, descriptorIndex := 339, attributes := #[] }, { accessFlags := 26, nameIndex := 364, descriptorIndex := 339, attributes := #[] }, { accessFlags := 26, nameIndex := 365, descriptorIndex := 339, attributes := #[] }, { accessFlags := 26, nameIndex := 172, descriptorIndex := 173, attributes := #[] }, { accessFlags := 26, nameIndex := 176, descriptorIndex := 173, attributes := #[] }, { accessFlags := 8, nameIndex := 344, descriptorIndex := 339, attributes := #[] }, { accessFlags := 8, nameIndex := 338, descriptorIndex := 339, attributes := #[] }, { accessFlags := 4120, nameIndex := 245, descriptorIndex := 246, attributes := #[] }])
  fields := #[{ name := "E", type := .double, accessFlags := 25, slot := 0, constantValue := 0 }, { name := "PI", type := .double, accessFlags := 25, slot := 1, constantValue := 0 }, { name := "TAU", type := .double, accessFlags := 25, slot := 2, constantValue := 0 }, { name := "DEGREES_TO_RADIANS", type := .double, accessFlags := 26, slot := 3, constantValue := 0 }, { name := "RADIANS_TO_DEGREES", type := .double, accessFlags := 26, slot := 4, constantValue := 0 }, { name := "negativeZeroFloatBits", type := .long, accessFlags := 26, slot := 5, constantValue := 0 }, { name := "negativeZeroDoubleBits", type := .long, accessFlags := 26, slot := 6, constantValue := 0 }, { name := "twoToTheDoubleScaleUp", type := .double, accessFlags := 8, slot := 7, constantValue := 0 }, { name := "twoToTheDoubleScaleDown", type := .double, accessFlags := 8, slot := 8, constantValue := 0 }, { name := "$assertionsDisabled", type := .boolean, accessFlags := 4120, slot := 9, constantValue := 0 }]
  methods := #[k16m0, k16m1]
  instanceTypes := #[]
  staticTypes := #[.double, .double, .double, .double, .double, .long, .long, .double, .double, .boolean]
  resolved := Array.replicate 460 none
  statics := none }

def pool17 : Array CpInfo := pool [(2, .class_ 4), (1, u "java/lang/Object"), (0, u "<init>"), (0, u "()V"), (17, .class_ 26), (1, u "jdk/internal/util/Preconditions"), (6, u "checkIndex"), (21, .class_ 56), (0, u "jdk/internal/util/Preconditions$4"), (57, .class_ 115), (0, u "jdk/internal/util/Preconditions$1"), (7, u "SIOOBE_FORMATTER"), (0, u "Ljava/util/function/BiFunction;"), (0, .class_ 126), (0, u "jdk/internal/util/Preconditions$2"), (3, u "AIOOBE_FORMATTER"), (0, .class_ 132), (0, u "jdk/internal/util/Preconditions$3"), (3, u "IOOBE_FORMATTER"), (41, u "(IILjava/util/function/BiFunction;)I")] 15

def k17m0 : Method := { name := "<init>", desc := "()V", sig := { parameters := [], returnType := none }, accessFlags := 1, code := none }
def k17c1 : Code := { maxStack := 3, maxLocals := 3, code := jdk_41_method_11_code, exceptionTable := #[], attributes := #[] }
def k17m1 : Method := { name := "checkIndex", desc := "(IILjava/util/function/BiFunction;)I", sig := { parameters := [.int, .int, (.object "java/util/function/BiFunction")], returnType := some .int }, accessFlags := 9, code := some k17c1 }
/-- jdk/internal/util/Preconditions -/
def k17 : Class := { plain "jdk/internal/util/Preconditions" (some 0) with
  accessFlags := 33
  interfaces := #[]
  cf := some (fileOf pool17 24 #[.nestMembers #[55, 131, 125, 114]] #[{ accessFlags := 1, nameIndex := 5, descriptorIndex := 6, attributes := #[] }, { accessFlags := 9, nameIndex := 33, descriptorIndex := 178, attributes := #[] }] 33 2 #[] #[{ accessFlags := 25, nameIndex := 123, descriptorIndex := 124, attributes := #[] }, { accessFlags := 25, nameIndex := 130, descriptorIndex := 124, attributes := #[] }, { accessFlags := 25, nameIndex := 136, descriptorIndex := 124, attributes := #[] }])
  fields := #[{ name := "SIOOBE_FORMATTER", type := (.object "java/util/function/BiFunction"), accessFlags := 25, slot := 0, constantValue := 0 }, { name := "AIOOBE_FORMATTER", type := (.object "java/util/function/BiFunction"), accessFlags := 25, slot := 1, constantValue := 0 }, { name := "IOOBE_FORMATTER", type := (.object "java/util/function/BiFunction"), accessFlags := 25, slot := 2, constantValue := 0 }]
  methods := #[k17m0, k17m1]
  instanceTypes := #[]
  staticTypes := #[(.object "java/util/function/BiFunction"), (.object "java/util/function/BiFunction"), (.object "java/util/function/BiFunction")]
  resolved := Array.replicate 194 none
  statics := some 1 }

def pool18 : Array CpInfo := pool [(6, .class_ 8), (1, u "java/lang/Object"), (0, u "<init>"), (0, u "()V"), (1, .class_ 14), (1, u "java/lang/StringUTF16"), (31, u "$assertionsDisabled"), (0, u "Z"), (13, u "HI_BYTE_SHIFT"), (0, u "I"), (2, u "LO_BYTE_SHIFT"), (49, .methodref 12 116), (0, .nameAndType 117 118), (0, u "compress"), (0, u "([CI[BII)I"), (3, u "([CII)[B"), (138, u "coderFromArrayLen"), (0, u "([BI)B"), (106, .class_ 371), (1, u "java/lang/StringUTF16$LinesSpliterator"), (58, u "MAX_LENGTH"), (196, .class_ 628), (0, u "java/lang/StringUTF16$CodePointsSpliterator"), (0, .class_ 630), (0, u "java/lang/StringUTF16$CharsSpliterator")] 4

def k18m0 : Method := { name := "<init>", desc := "()V", sig := { parameters := [], returnType := none }, accessFlags := 0, code := none }
def k18c1 : Code := { maxStack := 2, maxLocals := 2, code := jdk_52_method_15_code, exceptionTable := #[], attributes := #[] }
def k18m1 : Method := { name := "coderFromArrayLen", desc := "([BI)B", sig := { parameters := [(.array .byte), .int], returnType := some .byte }, accessFlags := 8, code := some k18c1 }
def k18c2 : Code := { maxStack := 5, maxLocals := 6, code := jdk_52_method_16_code, exceptionTable := #[], attributes := #[] }
def k18m2 : Method := { name := "compress", desc := "([CII)[B", sig := { parameters := [(.array .char), .int, .int], returnType := some (.array .byte) }, accessFlags := 9, code := some k18c2 }
def k18c3 : Code := { maxStack := 3, maxLocals := 7, code := jdk_52_method_21_code, exceptionTable := #[], attributes := #[] }
def k18m3 : Method := { name := "compress", desc := "([CI[BII)I", sig := { parameters := [(.array .char), .int, (.array .byte), .int, .int], returnType := some .int }, accessFlags := 9, code := some k18c3 }
/-- java/lang/StringUTF16 -/
def k18 : Class := { plain "java/lang/StringUTF16" (some 0) with
  accessFlags := 48
  interfaces := #[]
  cf := some (fileOf pool18 12 #[.nestMembers #[627, 629, 369]] #[{ accessFlags := 0, nameIndex := 9, descriptorIndex := 10, attributes := #[] }, { accessFlags := 8, nameIndex := 261, descriptorIndex := 262, attributes := #[] }, { accessFlags := 9, nameIndex := 117, descriptorIndex := 122, attributes := #[] }, { accessFlags := 9, nameIndex := 117, descriptorIndex := 118, attributes := #[] }] 48 6 #[] #[{ accessFlags := 26, nameIndex := 61, descriptorIndex := 62, attributes := #[] }, { accessFlags := 26, nameIndex := 65, descriptorIndex := 62, attributes := #[] }, { accessFlags := 24, nameIndex := 430, descriptorIndex := 62, attributes := #[] }, { accessFlags := 4120, nameIndex := 46, descriptorIndex := 47, attributes := #[] }])
  fields := #[{ name := "HI_BYTE_SHIFT", type := .int, accessFlags := 26, slot := 0, constantValue := 0 }, { name := "LO_BYTE_SHIFT", type := .int, accessFlags := 26, slot := 1, constantValue := 0 }, { name := "MAX_LENGTH", type := .int, accessFlags := 24, slot := 2, constantValue := 0 }, { name := "$assertionsDisabled", type := .boolean, accessFlags := 4120, slot := 3, constantValue := 0 }]
  methods := #[k18m0, k18m1, k18m2, k18m3]
  instanceTypes := #[]
  staticTypes := #[.int, .int, .int, .boolean]
  resolved := Array.replicate 635 none
  statics := none }

def pool19 : Array CpInfo := pool [(9, u "<init>"), (6, .class_ 18), (1, u "java/lang/Object"), (0, u "()V"), (1, .class_ 23), (1, u "jdk/internal/util/ArraysSupport"), (0, u "LOG2_ARRAY_LONG_INDEX_SCALE"), (0, u "I"), (2, u "U"), (0, u "Ljdk/internal/misc/Unsafe;"), (8, u "BIG_ENDIAN"), (0, u "Z"), (8, u "LOG2_BYTE_BIT_SIZE"), (4, u "LOG2_ARRAY_INT_INDEX_SCALE"), (6, .class_ 61), (0, u "[B"), (0, .methodref 21 63), (0, .nameAndType 64 65), (0, u "signedHashCode"), (0, u "(I[BII)I"), (42, u "JLA"), (0, u "Ljdk/internal/access/JavaLangAccess;"), (11, u "LOG2_ARRAY_BOOLEAN_INDEX_SCALE"), (9, u "LOG2_ARRAY_BYTE_INDEX_SCALE"), (5, u "LOG2_ARRAY_CHAR_INDEX_SCALE"), (5, u "LOG2_ARRAY_SHORT_INDEX_SCALE"), (18, u "LOG2_ARRAY_FLOAT_INDEX_SCALE"), (24, u "LOG2_ARRAY_DOUBLE_INDEX_SCALE"), (89, u "T_BOOLEAN"), (2, u "T_CHAR"), (1, u "T_FLOAT"), (1, u "T_DOUBLE"), (1, u "T_BYTE"), (1, u "T_SHORT"), (1, u "T_INT"), (1, u "T_LONG"), (1, u "SOFT_MAX_ARRAY_LENGTH"), (26, u "vectorizedHashCode"), (0, u "(Ljava/lang/Object;IIII)I")] 55

def k19m0 : Method := { name := "<init>", desc := "()V", sig := { parameters := [], returnType := none }, accessFlags := 2, code := none }
def k19c1 : Code := { maxStack := 4, maxLocals := 5, code := jdk_48_method_4_code, exceptionTable := #[], attributes := #[] }
def k19m1 : Method := { name := "vectorizedHashCode", desc := "(Ljava/lang/Object;IIII)I", sig := { parameters := [(.object "java/lang/Object"), .int, .int, .int, .int], returnType := some .int }, accessFlags := 9, code := some k19c1 }
def k19c2 : Code := { maxStack := 3, maxLocals := 6, code := jdk_48_method_5_code, exceptionTable := #[], attributes := #[] }
def k19m2 : Method := { name := "signedHashCode", desc := "(I[BII)I", sig := { parameters := [.int, (.array .byte), .int, .int], returnType := some .int }, accessFlags := 10, code := some k19c2 }
/-- jdk/internal/util/ArraysSupport -/
def k19 : Class := { plain "jdk/internal/util/ArraysSupport" (some 0) with
  accessFlags := 33
  interfaces := #[]
  cf := some (fileOf pool19 21 #[] #[{ accessFlags := 2, nameIndex := 9, descriptorIndex := 19, attributes := #[] }, { accessFlags := 9, nameIndex := 321, descriptorIndex := 322, attributes := #[] }, { accessFlags := 10, nameIndex := 64, descriptorIndex := 65, attributes := #[] }] 33 16 #[] #[{ accessFlags := 24, nameIndex := 28, descriptorIndex := 29, attributes := #[] }, { accessFlags := 26, nameIndex := 38, descriptorIndex := 39, attributes := #[] }, { accessFlags := 25, nameIndex := 121, descriptorIndex := 25, attributes := #[] }, { accessFlags := 25, nameIndex := 131, descriptorIndex := 25, attributes := #[] }, { accessFlags := 25, nameIndex := 137, descriptorIndex := 25, attributes := #[] }, { accessFlags := 25, nameIndex := 143, descriptorIndex := 25, attributes := #[] }, { accessFlags := 25, nameIndex := 53, descriptorIndex := 25, attributes := #[] }, { accessFlags := 25, nameIndex := 24, descriptorIndex := 25, attributes := #[] }, { accessFlags := 25, nameIndex := 162, descriptorIndex := 25, attributes := #[] }, { accessFlags := 25, nameIndex := 187, descriptorIndex := 25, attributes := #[] }, { accessFlags := 26, nameIndex := 48, descriptorIndex := 25, attributes := #[] }, { accessFlags := 25, nameIndex := 277, descriptorIndex := 25, attributes := #[] }, { accessFlags := 25, nameIndex := 280, descriptorIndex := 25, attributes := #[] }, { accessFlags := 25, nameIndex := 282, descriptorIndex := 25, attributes := #[] }, { accessFlags := 25, nameIndex := 284, descriptorIndex := 25, attributes := #[] }, { accessFlags := 25, nameIndex := 286, descriptorIndex := 25, attributes := #[] }, { accessFlags := 25, nameIndex := 288, descriptorIndex := 25, attributes := #[] }, { accessFlags := 25, nameIndex := 290, descriptorIndex := 25, attributes := #[] }, { accessFlags := 25, nameIndex := 292, descriptorIndex := 25, attributes := #[] }, { accessFlags := 26, nameIndex := 108, descriptorIndex := 109, attributes := #[] }, { accessFlags := 25, nameIndex := 294, descriptorIndex := 25, attributes := #[] }])
  fields := #[{ name := "U", type := (.object "jdk/internal/misc/Unsafe"), accessFlags := 24, slot := 0, constantValue := 0 }, { name := "BIG_ENDIAN", type := .boolean, accessFlags := 26, slot := 1, constantValue := 0 }, { name := "LOG2_ARRAY_BOOLEAN_INDEX_SCALE", type := .int, accessFlags := 25, slot := 2, constantValue := 0 }, { name := "LOG2_ARRAY_BYTE_INDEX_SCALE", type := .int, accessFlags := 25, slot := 3, constantValue := 0 }, { name := "LOG2_ARRAY_CHAR_INDEX_SCALE", type := .int, accessFlags := 25, slot := 4, constantValue := 0 }, { name := "LOG2_ARRAY_SHORT_INDEX_SCALE", type := .int, accessFlags := 25, slot := 5, constantValue := 0 }, { name := "LOG2_ARRAY_INT_INDEX_SCALE", type := .int, accessFlags := 25, slot := 6, constantValue := 0 }, { name := "LOG2_ARRAY_LONG_INDEX_SCALE", type := .int, accessFlags := 25, slot := 7, constantValue := 0 }, { name := "LOG2_ARRAY_FLOAT_INDEX_SCALE", type := .int, accessFlags := 25, slot := 8, constantValue := 0 }, { name := "LOG2_ARRAY_DOUBLE_INDEX_SCALE", type := .int, accessFlags := 25, slot := 9, constantValue := 0 }, { name := "LOG2_BYTE_BIT_SIZE", type := .int, accessFlags := 26, slot := 10, constantValue := 0 }, { name := "T_BOOLEAN", type := .int, accessFlags := 25, slot := 11, constantValue := 0 }, { name := "T_CHAR", type := .int, accessFlags := 25, slot := 12, constantValue := 0 }, { name := "T_FLOAT", type := .int, accessFlags := 25, slot := 13, constantValue := 0 }, { name := "T_DOUBLE", type := .int, accessFlags := 25, slot := 14, constantValue := 0 }, { name := "T_BYTE", type := .int, accessFlags := 25, slot := 15, constantValue := 0 }, { name := "T_SHORT", type := .int, accessFlags := 25, slot := 16, constantValue := 0 }, { name := "T_INT", type := .int, accessFlags := 25, slot := 17, constantValue := 0 }, { name := "T_LONG", type := .int, accessFlags := 25, slot := 18, constantValue := 0 }, { name := "JLA", type := (.object "jdk/internal/access/JavaLangAccess"), accessFlags := 26, slot := 19, constantValue := 0 }, { name := "SOFT_MAX_ARRAY_LENGTH", type := .int, accessFlags := 25, slot := 20, constantValue := 0 }]
  methods := #[k19m0, k19m1, k19m2]
  instanceTypes := #[]
  staticTypes := #[(.object "jdk/internal/misc/Unsafe"), .boolean, .int, .int, .int, .int, .int, .int, .int, .int, .int, .int, .int, .int, .int, .int, .int, .int, .int, (.object "jdk/internal/access/JavaLangAccess"), .int]
  resolved := Array.replicate 378 none
  statics := none }

def pool20 : Array CpInfo := pool [(1, u "java/lang/Cloneable"), (0, .class_ 1), (0, u "java/lang/Object"), (0, .class_ 3)] 3

/-- java/lang/Cloneable -/
def k20 : Class := { plain "java/lang/Cloneable" (some 0) with
  accessFlags := 1537
  interfaces := #[]
  cf := some (fileOf pool20 2 #[] #[] 1537 4 #[] #[])
  fields := #[]
  methods := #[]
  instanceTypes := #[]
  staticTypes := #[]
  resolved := Array.replicate 8 none
  statics := none }

/-- the primitive byte -/
def k21 : Class := { plain "byte" none with kind := .primitive 'B', accessFlags := 0x411 }
/-- [B -/
def k22 : Class := { plain "[B" (some 0) with kind := .array 21 .byte, interfaces := #[20, 2], accessFlags := 1041 }

/-- the primitive char -/
def k23 : Class := { plain "char" none with kind := .primitive 'C', accessFlags := 0x411 }
/-- [C -/
def k24 : Class := { plain "[C" (some 0) with kind := .array 23 .char, interfaces := #[20, 2], accessFlags := 1041 }

/-- the primitive int -/
def k25 : Class := { plain "int" none with kind := .primitive 'I', accessFlags := 0x411 }
/-- [I -/
def k26 : Class := { plain "[I" (some 0) with kind := .array 25 .int, interfaces := #[20, 2], accessFlags := 1041 }

def heap : Heap := #[{ cls := 7, slots := #[.long 0, .int 1, .null, .int 0, .null, .int 0, .int 0], vm := .statics 7 },
  { cls := 17, slots := #[.null, .null, .null], vm := .statics 17 }]
def classes : Array Class := #[k0, k1, k2, k3, k4, k5, k6, k7, k8, k9, k10, k11, k12, k13, k14, k15, k16, k17, k18, k19, k20, k21, k22, k23, k24, k25, k26]
def interned : List (Array UInt16 × Addr) := []
def slotsUsed : Nat := 10
def theMethod : MethodId := ⟨1, 1⟩
def args0 : Array Value := #[.int 65, .int 66, .int 67, .int 68, .int 514]
def aboutOver (below : List Frame) : State where
  vm := { classes := classes, interned := interned.toArray }
  heap := heap
  slotsUsed := slotsUsed
  threads := #[{ frames := .invoking theMethod args0 :: below }]
def below0 : List Frame := [.native { method := ⟨0, 0⟩, args := #[] }]
def about1 : State := aboutOver below0
def p0 : Program := .bare "" "" ""
def e0 : Env := launch0.env 0 0 0
theorem w_frames : about1.frames = Frame.invoking theMethod args0 :: below0 := rfl
set_option maxRecDepth 65536 in
theorem w_args : argsFit about1.vm theMethod args0 = true := by decide +kernel
set_option maxRecDepth 65536 in
theorem w_heap : heapFits about1 = true := by decide +kernel
set_option maxRecDepth 65536 in
theorem w_runnable : about1.curStatus? = some .runnable := by decide +kernel
set_option maxRecDepth 65536 in
theorem w_alone : about1.alone = true := by decide +kernel
set_option maxRecDepth 65536 in
theorem w_named : about1.methodNamed? x = some theMethod := by decide +kernel
set_option maxRecDepth 65536 in
theorem w_hears : about1.hears theMethod below0 = true := by decide +kernel
set_option maxRecDepth 65536 in
theorem w_ripe : about1.ripe theMethod args0 below0 = true := by decide +kernel
theorem w_running : about1.status = .running := rfl
set_option maxRecDepth 65536 in
theorem w_room : about1.hasRoom e0.platform room_1 = true :=
  launch0.hasRoom_least _ room_1 (by decide +kernel) (by decide +kernel) (by decide +kernel) (by decide +kernel) (by decide +kernel) (by decide +kernel)
theorem allAtoms_all (ts : List Jvm.Cond) (a : Array Jvm.Value) (st : Jvm.State) : (allAtoms ts).before a st = ts.all (fun c => c.before a st) := by
  induction ts with
  | nil => rfl
  | cons c t ih =>
    show (Jvm.Cond.and c (allAtoms t)).before a st = _
    rw [Jvm.Cond.before_and, ih, List.all_cons]
def words1 : List Jvm.Cond := Jvm.Cond.code x code maxLocals ret :: tables_1
/-- a 'code' word, met by the world's own term for the bytes: nothing is compared byte by byte -/
theorem code_word {y : MethodName} {bytes : ByteArray} {mx : Nat} {rt : Option FieldType} {a : Array Value} {s : State} {m : MethodId} {meth : Method} {c : Code} (h1 : s.methodNamed? y = some m) (h2 : s.vm.method? m = some meth) (h3 : meth.code = some c) (h4 : c.code = bytes)
    (h5 : (c.maxLocals == mx && c.exceptionTable.isEmpty && decide (c.maxStack ≤ mostOperands) && decide (meth.sig.returnType = rt) && !meth.locks && decide (parseMethodDescriptor y.desc = some meth.sig)) = true) : (Jvm.Cond.code y bytes mx rt).before a s = true := by
  simp only [Bool.and_eq_true, beq_iff_eq, Bool.not_eq_true', decide_eq_true_eq] at h5
  obtain ⟨⟨⟨⟨⟨g1, g2⟩, g3⟩, g4⟩, g5⟩, g6⟩ := h5
  simp [Cond.before, Cond.holds, Cond.value, h1, h2, h3, h4, g1, g2, g3, g4, g5, g6]
def isCode : Jvm.Cond → Bool
  | .code _ _ _ _ => true
  | _ => false
theorem all_split {L : List Jvm.Cond} {P : Jvm.Cond → Bool} (h1 : L.all (fun c => isCode c || P c) = true) (h2 : ∀ c ∈ L.filter isCode, P c = true) : L.all P = true := by
  refine List.all_eq_true.mpr fun c hc => ?_
  have h := List.all_eq_true.mp h1 c hc
  rcases Bool.eq_false_or_eq_true (isCode c) with hi | hi
  · exact h2 c (List.mem_filter.mpr ⟨hc, hi⟩)
  · simpa [hi] using h
set_option maxRecDepth 65536 in
theorem w_c0 : (Jvm.Cond.code x code maxLocals ret).before args0 about1 = true := code_word (m := ⟨1, 1⟩) (meth := k1m1) (c := k1c1) (by decide +kernel) rfl rfl rfl (by decide +kernel)
set_option maxRecDepth 65536 in
theorem w_c1 : (Jvm.Cond.code ({ cls := "com/example/evenkeel/evenkeel/RouteToStringPinLaw", name := "mk", desc := "(ICC)Ljava/lang/String;" } : Jvm.MethodName) method_3_code (3 : Nat) (Option.some (Jvm.ClassFile.FieldType.object "java/lang/String"))).before args0 about1 = true := code_word (m := ⟨1, 2⟩) (meth := k1m2) (c := k1c2) (by decide +kernel) rfl rfl rfl (by decide +kernel)
set_option maxRecDepth 65536 in
theorem w_c2 : (Jvm.Cond.code ({ cls := "java/lang/String", name := "<init>", desc := "([C)V" } : Jvm.MethodName) jdk_42_method_3_code (2 : Nat) (Option.none : Option Jvm.ClassFile.FieldType)).before args0 about1 = true := code_word (m := ⟨7, 1⟩) (meth := k7m1) (c := k7c1) (by decide +kernel) rfl rfl rfl (by decide +kernel)
set_option maxRecDepth 65536 in
theorem w_c3 : (Jvm.Cond.code ({ cls := "java/lang/String", name := "<init>", desc := "([CIILjava/lang/Void;)V" } : Jvm.MethodName) jdk_42_method_149_code (6 : Nat) (Option.none : Option Jvm.ClassFile.FieldType)).before args0 about1 = true := code_word (m := ⟨7, 7⟩) (meth := k7m7) (c := k7c7) (by decide +kernel) rfl rfl rfl (by decide +kernel)
set_option maxRecDepth 65536 in
theorem w_c4 : (Jvm.Cond.code ({ cls := "java/lang/Object", name := "<init>", desc := "()V" } : Jvm.MethodName) object_method_1_code (1 : Nat) (Option.none : Option Jvm.ClassFile.FieldType)).before args0 about1 = true := code_word (m := ⟨0, 0⟩) (meth := k0m0) (c := k0c0) (by decide +kernel) rfl rfl rfl (by decide +kernel)
set_option maxRecDepth 65536 in
theorem w_c5 : (Jvm.Cond.code ({ cls := "com/example/evenkeel/evenkeel/Route", name := "<init>", desc := "(Ljava/lang/String;Ljava/lang/String;)V" } : Jvm.MethodName) prog_27_method_1_code (3 : Nat) (Option.none : Option Jvm.ClassFile.FieldType)).before args0 about1 = true := code_word (m := ⟨8, 0⟩) (meth := k8m0) (c := k8c0) (by decide +kernel) rfl rfl rfl (by decide +kernel)
set_option maxRecDepth 65536 in
theorem w_c6 : (Jvm.Cond.code ({ cls := "java/util/Objects", name := "requireNonNull", desc := "(Ljava/lang/Object;Ljava/lang/String;)Ljava/lang/Object;" } : Jvm.MethodName) jdk_31_method_11_code (2 : Nat) (Option.some (Jvm.ClassFile.FieldType.object "java/lang/Object"))).before args0 about1 = true := code_word (m := ⟨9, 1⟩) (meth := k9m1) (c := k9c1) (by decide +kernel) rfl rfl rfl (by decide +kernel)
set_option maxRecDepth 65536 in
theorem w_c7 : (Jvm.Cond.code ({ cls := "java/lang/String", name := "hashCode", desc := "()I" } : Jvm.MethodName) jdk_42_method_78_code (2 : Nat) (Option.some Jvm.ClassFile.FieldType.int)).before args0 about1 = true := code_word (m := ⟨7, 5⟩) (meth := k7m5) (c := k7c5) (by decide +kernel) rfl rfl rfl (by decide +kernel)
set_option maxRecDepth 65536 in
theorem w_c8 : (Jvm.Cond.code ({ cls := "java/lang/String", name := "isLatin1", desc := "()Z" } : Jvm.MethodName) jdk_42_method_154_code (1 : Nat) (Option.some Jvm.ClassFile.FieldType.boolean)).before args0 about1 = true := code_word (m := ⟨7, 10⟩) (meth := k7m10) (c := k7c10) (by decide +kernel) rfl rfl rfl (by decide +kernel)
set_option maxRecDepth 65536 in
theorem w_c9 : (Jvm.Cond.code ({ cls := "java/lang/StringLatin1", name := "hashCode", desc := "([B)I" } : Jvm.MethodName) jdk_43_method_21_code (1 : Nat) (Option.some Jvm.ClassFile.FieldType.int)).before args0 about1 = true := code_word (m := ⟨10, 2⟩) (meth := k10m2) (c := k10c2) (by decide +kernel) rfl rfl rfl (by decide +kernel)
set_option maxRecDepth 65536 in
theorem w_c10 : (Jvm.Cond.code ({ cls := "com/example/evenkeel/evenkeel/Route", name := "toString", desc := "()Ljava/lang/String;" } : Jvm.MethodName) prog_27_method_6_code (1 : Nat) (Option.some (Jvm.ClassFile.FieldType.object "java/lang/String"))).before args0 about1 = true := code_word (m := ⟨8, 1⟩) (meth := k8m1) (c := k8c1) (by decide +kernel) rfl rfl rfl (by decide +kernel)
set_option maxRecDepth 65536 in
theorem w_c11 : (Jvm.Cond.code ({ cls := "java/lang/StringBuilder", name := "<init>", desc := "()V" } : Jvm.MethodName) jdk_67_method_1_code (1 : Nat) (Option.none : Option Jvm.ClassFile.FieldType)).before args0 about1 = true := code_word (m := ⟨13, 0⟩) (meth := k13m0) (c := k13c0) (by decide +kernel) rfl rfl rfl (by decide +kernel)
set_option maxRecDepth 65536 in
theorem w_c12 : (Jvm.Cond.code ({ cls := "java/lang/AbstractStringBuilder", name := "<init>", desc := "(I)V" } : Jvm.MethodName) jdk_68_method_2_code (2 : Nat) (Option.none : Option Jvm.ClassFile.FieldType)).before args0 about1 = true := code_word (m := ⟨12, 1⟩) (meth := k12m1) (c := k12c1) (by decide +kernel) rfl rfl rfl (by decide +kernel)
set_option maxRecDepth 65536 in
theorem w_c13 : (Jvm.Cond.code ({ cls := "java/lang/StringBuilder", name := "append", desc := "(Ljava/lang/String;)Ljava/lang/StringBuilder;" } : Jvm.MethodName) jdk_67_method_7_code (2 : Nat) (Option.some (Jvm.ClassFile.FieldType.object "java/lang/StringBuilder"))).before args0 about1 = true := code_word (m := ⟨13, 1⟩) (meth := k13m1) (c := k13c1) (by decide +kernel) rfl rfl rfl (by decide +kernel)
set_option maxRecDepth 65536 in
theorem w_c14 : (Jvm.Cond.code ({ cls := "java/lang/AbstractStringBuilder", name := "append", desc := "(Ljava/lang/String;)Ljava/lang/AbstractStringBuilder;" } : Jvm.MethodName) jdk_68_method_22_code (3 : Nat) (Option.some (Jvm.ClassFile.FieldType.object "java/lang/AbstractStringBuilder"))).before args0 about1 = true := code_word (m := ⟨12, 4⟩) (meth := k12m4) (c := k12c4) (by decide +kernel) rfl rfl rfl (by decide +kernel)
set_option maxRecDepth 65536 in
theorem w_c15 : (Jvm.Cond.code ({ cls := "java/lang/String", name := "length", desc := "()I" } : Jvm.MethodName) jdk_42_method_54_code (1 : Nat) (Option.some Jvm.ClassFile.FieldType.int)).before args0 about1 = true := code_word (m := ⟨7, 3⟩) (meth := k7m3) (c := k7c3) (by decide +kernel) rfl rfl rfl (by decide +kernel)
set_option maxRecDepth 65536 in
theorem w_c16 : (Jvm.Cond.code ({ cls := "java/lang/String", name := "coder", desc := "()B" } : Jvm.MethodName) jdk_42_method_152_code (1 : Nat) (Option.some Jvm.ClassFile.FieldType.byte)).before args0 about1 = true := code_word (m := ⟨7, 9⟩) (meth := k7m9) (c := k7c9) (by decide +kernel) rfl rfl rfl (by decide +kernel)
set_option maxRecDepth 65536 in
theorem w_c17 : (Jvm.Cond.code ({ cls := "java/lang/AbstractStringBuilder", name := "ensureCapacityInternal", desc := "(I)V" } : Jvm.MethodName) jdk_68_method_9_code (3 : Nat) (Option.none : Option Jvm.ClassFile.FieldType)).before args0 about1 = true := code_word (m := ⟨12, 3⟩) (meth := k12m3) (c := k12c3) (by decide +kernel) rfl rfl rfl (by decide +kernel)
set_option maxRecDepth 65536 in
theorem w_c18 : (Jvm.Cond.code ({ cls := "java/lang/AbstractStringBuilder", name := "putStringAt", desc := "(ILjava/lang/String;)V" } : Jvm.MethodName) jdk_68_method_73_code (3 : Nat) (Option.none : Option Jvm.ClassFile.FieldType)).before args0 about1 = true := code_word (m := ⟨12, 8⟩) (meth := k12m8) (c := k12c8) (by decide +kernel) rfl rfl rfl (by decide +kernel)
set_option maxRecDepth 65536 in
theorem w_c19 : (Jvm.Cond.code ({ cls := "java/lang/AbstractStringBuilder", name := "inflateIfNeededFor", desc := "(Ljava/lang/String;)V" } : Jvm.MethodName) jdk_68_method_71_code (2 : Nat) (Option.none : Option Jvm.ClassFile.FieldType)).before args0 about1 = true := code_word (m := ⟨12, 7⟩) (meth := k12m7) (c := k12c7) (by decide +kernel) rfl rfl rfl (by decide +kernel)
set_option maxRecDepth 65536 in
theorem w_c20 : (Jvm.Cond.code ({ cls := "java/lang/String", name := "getBytes", desc := "([BIB)V" } : Jvm.MethodName) jdk_42_method_147_code (4 : Nat) (Option.none : Option Jvm.ClassFile.FieldType)).before args0 about1 = true := code_word (m := ⟨7, 6⟩) (meth := k7m6) (c := k7c6) (by decide +kernel) rfl rfl rfl (by decide +kernel)
set_option maxRecDepth 65536 in
theorem w_c21 : (Jvm.Cond.code ({ cls := "java/lang/StringBuilder", name := "toString", desc := "()Ljava/lang/String;" } : Jvm.MethodName) jdk_67_method_42_code (1 : Nat) (Option.some (Jvm.ClassFile.FieldType.object "java/lang/String"))).before args0 about1 = true := code_word (m := ⟨13, 2⟩) (meth := k13m2) (c := k13c2) (by decide +kernel) rfl rfl rfl (by decide +kernel)
set_option maxRecDepth 65536 in
theorem w_c22 : (Jvm.Cond.code ({ cls := "java/lang/String", name := "<init>", desc := "(Ljava/lang/StringBuilder;)V" } : Jvm.MethodName) jdk_42_method_53_code (2 : Nat) (Option.none : Option Jvm.ClassFile.FieldType)).before args0 about1 = true := code_word (m := ⟨7, 2⟩) (meth := k7m2) (c := k7c2) (by decide +kernel) rfl rfl rfl (by decide +kernel)
set_option maxRecDepth 65536 in
theorem w_c23 : (Jvm.Cond.code ({ cls := "java/lang/String", name := "<init>", desc := "(Ljava/lang/AbstractStringBuilder;Ljava/lang/Void;)V" } : Jvm.MethodName) jdk_42_method_150_code (5 : Nat) (Option.none : Option Jvm.ClassFile.FieldType)).before args0 about1 = true := code_word (m := ⟨7, 8⟩) (meth := k7m8) (c := k7c8) (by decide +kernel) rfl rfl rfl (by decide +kernel)
set_option maxRecDepth 65536 in
theorem w_c24 : (Jvm.Cond.code ({ cls := "java/lang/AbstractStringBuilder", name := "getValue", desc := "()[B" } : Jvm.MethodName) jdk_68_method_64_code (1 : Nat) (Option.some (Jvm.ClassFile.FieldType.array Jvm.ClassFile.FieldType.byte))).before args0 about1 = true := code_word (m := ⟨12, 5⟩) (meth := k12m5) (c := k12c5) (by decide +kernel) rfl rfl rfl (by decide +kernel)
set_option maxRecDepth 65536 in
theorem w_c25 : (Jvm.Cond.code ({ cls := "java/lang/StringBuilder", name := "length", desc := "()I" } : Jvm.MethodName) jdk_67_method_93_code (1 : Nat) (Option.some Jvm.ClassFile.FieldType.int)).before args0 about1 = true := code_word (m := ⟨13, 3⟩) (meth := k13m3) (c := k13c3) (by decide +kernel) rfl rfl rfl (by decide +kernel)
set_option maxRecDepth 65536 in
theorem w_c26 : (Jvm.Cond.code ({ cls := "java/lang/AbstractStringBuilder", name := "length", desc := "()I" } : Jvm.MethodName) jdk_68_method_6_code (1 : Nat) (Option.some Jvm.ClassFile.FieldType.int)).before args0 about1 = true := code_word (m := ⟨12, 2⟩) (meth := k12m2) (c := k12c2) (by decide +kernel) rfl rfl rfl (by decide +kernel)
set_option maxRecDepth 65536 in
theorem w_c27 : (Jvm.Cond.code ({ cls := "java/lang/AbstractStringBuilder", name := "isLatin1", desc := "()Z" } : Jvm.MethodName) jdk_68_method_68_code (1 : Nat) (Option.some Jvm.ClassFile.FieldType.boolean)).before args0 about1 = true := code_word (m := ⟨12, 6⟩) (meth := k12m6) (c := k12c6) (by decide +kernel) rfl rfl rfl (by decide +kernel)
set_option maxRecDepth 65536 in
theorem w_c28 : (Jvm.Cond.code ({ cls := "java/util/Arrays", name := "copyOfRange", desc := "([BII)[B" } : Jvm.MethodName) jdk_65_method_132_code (3 : Nat) (Option.some (Jvm.ClassFile.FieldType.array Jvm.ClassFile.FieldType.byte))).before args0 about1 = true := code_word (m := ⟨15, 2⟩) (meth := k15m2) (c := k15c2) (by decide +kernel) rfl rfl rfl (by decide +kernel)
set_option maxRecDepth 65536 in
theorem w_c29 : (Jvm.Cond.code ({ cls := "java/util/Arrays", name := "copyOfRangeByte", desc := "([BII)[B" } : Jvm.MethodName) jdk_65_method_133_code (5 : Nat) (Option.some (Jvm.ClassFile.FieldType.array Jvm.ClassFile.FieldType.byte))).before args0 about1 = true := code_word (m := ⟨15, 3⟩) (meth := k15m3) (c := k15c3) (by decide +kernel) rfl rfl rfl (by decide +kernel)
set_option maxRecDepth 65536 in
theorem w_c30 : (Jvm.Cond.code ({ cls := "java/util/Arrays", name := "checkLength", desc := "(II)V" } : Jvm.MethodName) jdk_65_method_131_code (2 : Nat) (Option.none : Option Jvm.ClassFile.FieldType)).before args0 about1 = true := code_word (m := ⟨15, 1⟩) (meth := k15m1) (c := k15c1) (by decide +kernel) rfl rfl rfl (by decide +kernel)
set_option maxRecDepth 65536 in
theorem w_c31 : (Jvm.Cond.code ({ cls := "java/lang/Math", name := "min", desc := "(II)I" } : Jvm.MethodName) jdk_29_method_69_code (2 : Nat) (Option.some Jvm.ClassFile.FieldType.int)).before args0 about1 = true := code_word (m := ⟨16, 1⟩) (meth := k16m1) (c := k16c1) (by decide +kernel) rfl rfl rfl (by decide +kernel)
set_option maxRecDepth 65536 in
theorem w_c32 : (Jvm.Cond.code ({ cls := "com/example/evenkeel/evenkeel/RouteToStringPinLaw", name := "at", desc := "(Ljava/lang/String;IIICCCC)Z" } : Jvm.MethodName) method_4_code (10 : Nat) (Option.some Jvm.ClassFile.FieldType.boolean)).before args0 about1 = true := code_word (m := ⟨1, 3⟩) (meth := k1m3) (c := k1c3) (by decide +kernel) rfl rfl rfl (by decide +kernel)
set_option maxRecDepth 65536 in
theorem w_c33 : (Jvm.Cond.code ({ cls := "java/lang/String", name := "charAt", desc := "(I)C" } : Jvm.MethodName) jdk_42_method_56_code (2 : Nat) (Option.some Jvm.ClassFile.FieldType.char)).before args0 about1 = true := code_word (m := ⟨7, 4⟩) (meth := k7m4) (c := k7c4) (by decide +kernel) rfl rfl rfl (by decide +kernel)
set_option maxRecDepth 65536 in
theorem w_c34 : (Jvm.Cond.code ({ cls := "java/lang/StringLatin1", name := "charAt", desc := "([BI)C" } : Jvm.MethodName) jdk_43_method_2_code (2 : Nat) (Option.some Jvm.ClassFile.FieldType.char)).before args0 about1 = true := code_word (m := ⟨10, 1⟩) (meth := k10m1) (c := k10c1) (by decide +kernel) rfl rfl rfl (by decide +kernel)
set_option maxRecDepth 65536 in
theorem w_c35 : (Jvm.Cond.code ({ cls := "java/lang/String", name := "checkIndex", desc := "(II)V" } : Jvm.MethodName) jdk_42_method_155_code (2 : Nat) (Option.none : Option Jvm.ClassFile.FieldType)).before args0 about1 = true := code_word (m := ⟨7, 11⟩) (meth := k7m11) (c := k7c11) (by decide +kernel) rfl rfl rfl (by decide +kernel)
set_option maxRecDepth 65536 in
theorem w_c36 : (Jvm.Cond.code ({ cls := "jdk/internal/util/Preconditions", name := "checkIndex", desc := "(IILjava/util/function/BiFunction;)I" } : Jvm.MethodName) jdk_41_method_11_code (3 : Nat) (Option.some Jvm.ClassFile.FieldType.int)).before args0 about1 = true := code_word (m := ⟨17, 1⟩) (meth := k17m1) (c := k17c1) (by decide +kernel) rfl rfl rfl (by decide +kernel)
set_option maxRecDepth 65536 in
theorem w_c37 : (Jvm.Cond.code ({ cls := "java/lang/StringUTF16", name := "compress", desc := "([CII)[B" } : Jvm.MethodName) jdk_52_method_16_code (6 : Nat) (Option.some (Jvm.ClassFile.FieldType.array Jvm.ClassFile.FieldType.byte))).before args0 about1 = true := code_word (m := ⟨18, 2⟩) (meth := k18m2) (c := k18c2) (by decide +kernel) rfl rfl rfl (by decide +kernel)
set_option maxRecDepth 65536 in
theorem w_c38 : (Jvm.Cond.code ({ cls := "java/lang/StringUTF16", name := "compress", desc := "([CI[BII)I" } : Jvm.MethodName) jdk_52_method_21_code (7 : Nat) (Option.some Jvm.ClassFile.FieldType.int)).before args0 about1 = true := code_word (m := ⟨18, 3⟩) (meth := k18m3) (c := k18c3) (by decide +kernel) rfl rfl rfl (by decide +kernel)
set_option maxRecDepth 65536 in
theorem w_c39 : (Jvm.Cond.code ({ cls := "java/lang/StringUTF16", name := "coderFromArrayLen", desc := "([BI)B" } : Jvm.MethodName) jdk_52_method_15_code (2 : Nat) (Option.some Jvm.ClassFile.FieldType.byte)).before args0 about1 = true := code_word (m := ⟨18, 1⟩) (meth := k18m1) (c := k18c1) (by decide +kernel) rfl rfl rfl (by decide +kernel)
set_option maxRecDepth 65536 in
theorem w_c40 : (Jvm.Cond.code ({ cls := "jdk/internal/util/ArraysSupport", name := "vectorizedHashCode", desc := "(Ljava/lang/Object;IIII)I" } : Jvm.MethodName) jdk_48_method_4_code (5 : Nat) (Option.some Jvm.ClassFile.FieldType.int)).before args0 about1 = true := code_word (m := ⟨19, 1⟩) (meth := k19m1) (c := k19c1) (by decide +kernel) rfl rfl rfl (by decide +kernel)
set_option maxRecDepth 65536 in
theorem w_c41 : (Jvm.Cond.code ({ cls := "jdk/internal/util/ArraysSupport", name := "signedHashCode", desc := "(I[BII)I" } : Jvm.MethodName) jdk_48_method_5_code (6 : Nat) (Option.some Jvm.ClassFile.FieldType.int)).before args0 about1 = true := code_word (m := ⟨19, 2⟩) (meth := k19m2) (c := k19c2) (by decide +kernel) rfl rfl rfl (by decide +kernel)
def codes1 : List Jvm.Cond := [Jvm.Cond.code x code maxLocals ret, Jvm.Cond.code ({ cls := "com/example/evenkeel/evenkeel/RouteToStringPinLaw", name := "mk", desc := "(ICC)Ljava/lang/String;" } : Jvm.MethodName) method_3_code (3 : Nat) (Option.some (Jvm.ClassFile.FieldType.object "java/lang/String")), Jvm.Cond.code ({ cls := "java/lang/String", name := "<init>", desc := "([C)V" } : Jvm.MethodName) jdk_42_method_3_code (2 : Nat) (Option.none : Option Jvm.ClassFile.FieldType), Jvm.Cond.code ({ cls := "java/lang/String", name := "<init>", desc := "([CIILjava/lang/Void;)V" } : Jvm.MethodName) jdk_42_method_149_code (6 : Nat) (Option.none : Option Jvm.ClassFile.FieldType), Jvm.Cond.code ({ cls := "java/lang/Object", name := "<init>", desc := "()V" } : Jvm.MethodName) object_method_1_code (1 : Nat) (Option.none : Option Jvm.ClassFile.FieldType), Jvm.Cond.code ({ cls := "com/example/evenkeel/evenkeel/Route", name := "<init>", desc := "(Ljava/lang/String;Ljava/lang/String;)V" } : Jvm.MethodName) prog_27_method_1_code (3 : Nat) (Option.none : Option Jvm.ClassFile.FieldType), Jvm.Cond.code ({ cls := "java/util/Objects", name := "requireNonNull", desc := "(Ljava/lang/Object;Ljava/lang/String;)Ljava/lang/Object;" } : Jvm.MethodName) jdk_31_method_11_code (2 : Nat) (Option.some (Jvm.ClassFile.FieldType.object "java/lang/Object")), Jvm.Cond.code ({ cls := "java/lang/String", name := "hashCode", desc := "()I" } : Jvm.MethodName) jdk_42_method_78_code (2 : Nat) (Option.some Jvm.ClassFile.FieldType.int), Jvm.Cond.code ({ cls := "java/lang/String", name := "isLatin1", desc := "()Z" } : Jvm.MethodName) jdk_42_method_154_code (1 : Nat) (Option.some Jvm.ClassFile.FieldType.boolean), Jvm.Cond.code ({ cls := "java/lang/StringLatin1", name := "hashCode", desc := "([B)I" } : Jvm.MethodName) jdk_43_method_21_code (1 : Nat) (Option.some Jvm.ClassFile.FieldType.int), Jvm.Cond.code ({ cls := "com/example/evenkeel/evenkeel/Route", name := "toString", desc := "()Ljava/lang/String;" } : Jvm.MethodName) prog_27_method_6_code (1 : Nat) (Option.some (Jvm.ClassFile.FieldType.object "java/lang/String")), Jvm.Cond.code ({ cls := "java/lang/StringBuilder", name := "<init>", desc := "()V" } : Jvm.MethodName) jdk_67_method_1_code (1 : Nat) (Option.none : Option Jvm.ClassFile.FieldType), Jvm.Cond.code ({ cls := "java/lang/AbstractStringBuilder", name := "<init>", desc := "(I)V" } : Jvm.MethodName) jdk_68_method_2_code (2 : Nat) (Option.none : Option Jvm.ClassFile.FieldType), Jvm.Cond.code ({ cls := "java/lang/StringBuilder", name := "append", desc := "(Ljava/lang/String;)Ljava/lang/StringBuilder;" } : Jvm.MethodName) jdk_67_method_7_code (2 : Nat) (Option.some (Jvm.ClassFile.FieldType.object "java/lang/StringBuilder")), Jvm.Cond.code ({ cls := "java/lang/AbstractStringBuilder", name := "append", desc := "(Ljava/lang/String;)Ljava/lang/AbstractStringBuilder;" } : Jvm.MethodName) jdk_68_method_22_code (3 : Nat) (Option.some (Jvm.ClassFile.FieldType.object "java/lang/AbstractStringBuilder")), Jvm.Cond.code ({ cls := "java/lang/String", name := "length", desc := "()I" } : Jvm.MethodName) jdk_42_method_54_code (1 : Nat) (Option.some Jvm.ClassFile.FieldType.int), Jvm.Cond.code ({ cls := "java/lang/String", name := "coder", desc := "()B" } : Jvm.MethodName) jdk_42_method_152_code (1 : Nat) (Option.some Jvm.ClassFile.FieldType.byte), Jvm.Cond.code ({ cls := "java/lang/AbstractStringBuilder", name := "ensureCapacityInternal", desc := "(I)V" } : Jvm.MethodName) jdk_68_method_9_code (3 : Nat) (Option.none : Option Jvm.ClassFile.FieldType), Jvm.Cond.code ({ cls := "java/lang/AbstractStringBuilder", name := "putStringAt", desc := "(ILjava/lang/String;)V" } : Jvm.MethodName) jdk_68_method_73_code (3 : Nat) (Option.none : Option Jvm.ClassFile.FieldType), Jvm.Cond.code ({ cls := "java/lang/AbstractStringBuilder", name := "inflateIfNeededFor", desc := "(Ljava/lang/String;)V" } : Jvm.MethodName) jdk_68_method_71_code (2 : Nat) (Option.none : Option Jvm.ClassFile.FieldType), Jvm.Cond.code ({ cls := "java/lang/String", name := "getBytes", desc := "([BIB)V" } : Jvm.MethodName) jdk_42_method_147_code (4 : Nat) (Option.none : Option Jvm.ClassFile.FieldType), Jvm.Cond.code ({ cls := "java/lang/StringBuilder", name := "toString", desc := "()Ljava/lang/String;" } : Jvm.MethodName) jdk_67_method_42_code (1 : Nat) (Option.some (Jvm.ClassFile.FieldType.object "java/lang/String")), Jvm.Cond.code ({ cls := "java/lang/String", name := "<init>", desc := "(Ljava/lang/StringBuilder;)V" } : Jvm.MethodName) jdk_42_method_53_code (2 : Nat) (Option.none : Option Jvm.ClassFile.FieldType), Jvm.Cond.code ({ cls := "java/lang/String", name := "<init>", desc := "(Ljava/lang/AbstractStringBuilder;Ljava/lang/Void;)V" } : Jvm.MethodName) jdk_42_method_150_code (5 : Nat) (Option.none : Option Jvm.ClassFile.FieldType), Jvm.Cond.code ({ cls := "java/lang/AbstractStringBuilder", name := "getValue", desc := "()[B" } : Jvm.MethodName) jdk_68_method_64_code (1 : Nat) (Option.some (Jvm.ClassFile.FieldType.array Jvm.ClassFile.FieldType.byte)), Jvm.Cond.code ({ cls := "java/lang/StringBuilder", name := "length", desc := "()I" } : Jvm.MethodName) jdk_67_method_93_code (1 : Nat) (Option.some Jvm.ClassFile.FieldType.int), Jvm.Cond.code ({ cls := "java/lang/AbstractStringBuilder", name := "length", desc := "()I" } : Jvm.MethodName) jdk_68_method_6_code (1 : Nat) (Option.some Jvm.ClassFile.FieldType.int), Jvm.Cond.code ({ cls := "java/lang/AbstractStringBuilder", name := "isLatin1", desc := "()Z" } : Jvm.MethodName) jdk_68_method_68_code (1 : Nat) (Option.some Jvm.ClassFile.FieldType.boolean), Jvm.Cond.code ({ cls := "java/util/Arrays", name := "copyOfRange", desc := "([BII)[B" } : Jvm.MethodName) jdk_65_method_132_code (3 : Nat) (Option.some (Jvm.ClassFile.FieldType.array Jvm.ClassFile.FieldType.byte)), Jvm.Cond.code ({ cls := "java/util/Arrays", name := "copyOfRangeByte", desc := "([BII)[B" } : Jvm.MethodName) jdk_65_method_133_code (5 : Nat) (Option.some (Jvm.ClassFile.FieldType.array Jvm.ClassFile.FieldType.byte)), Jvm.Cond.code ({ cls := "java/util/Arrays", name := "checkLength", desc := "(II)V" } : Jvm.MethodName) jdk_65_method_131_code (2 : Nat) (Option.none : Option Jvm.ClassFile.FieldType), Jvm.Cond.code ({ cls := "java/lang/Math", name := "min", desc := "(II)I" } : Jvm.MethodName) jdk_29_method_69_code (2 : Nat) (Option.some Jvm.ClassFile.FieldType.int), Jvm.Cond.code ({ cls := "com/example/evenkeel/evenkeel/RouteToStringPinLaw", name := "at", desc := "(Ljava/lang/String;IIICCCC)Z" } : Jvm.MethodName) method_4_code (10 : Nat) (Option.some Jvm.ClassFile.FieldType.boolean), Jvm.Cond.code ({ cls := "java/lang/String", name := "charAt", desc := "(I)C" } : Jvm.MethodName) jdk_42_method_56_code (2 : Nat) (Option.some Jvm.ClassFile.FieldType.char), Jvm.Cond.code ({ cls := "java/lang/StringLatin1", name := "charAt", desc := "([BI)C" } : Jvm.MethodName) jdk_43_method_2_code (2 : Nat) (Option.some Jvm.ClassFile.FieldType.char), Jvm.Cond.code ({ cls := "java/lang/String", name := "checkIndex", desc := "(II)V" } : Jvm.MethodName) jdk_42_method_155_code (2 : Nat) (Option.none : Option Jvm.ClassFile.FieldType), Jvm.Cond.code ({ cls := "jdk/internal/util/Preconditions", name := "checkIndex", desc := "(IILjava/util/function/BiFunction;)I" } : Jvm.MethodName) jdk_41_method_11_code (3 : Nat) (Option.some Jvm.ClassFile.FieldType.int), Jvm.Cond.code ({ cls := "java/lang/StringUTF16", name := "compress", desc := "([CII)[B" } : Jvm.MethodName) jdk_52_method_16_code (6 : Nat) (Option.some (Jvm.ClassFile.FieldType.array Jvm.ClassFile.FieldType.byte)), Jvm.Cond.code ({ cls := "java/lang/StringUTF16", name := "compress", desc := "([CI[BII)I" } : Jvm.MethodName) jdk_52_method_21_code (7 : Nat) (Option.some Jvm.ClassFile.FieldType.int), Jvm.Cond.code ({ cls := "java/lang/StringUTF16", name := "coderFromArrayLen", desc := "([BI)B" } : Jvm.MethodName) jdk_52_method_15_code (2 : Nat) (Option.some Jvm.ClassFile.FieldType.byte), Jvm.Cond.code ({ cls := "jdk/internal/util/ArraysSupport", name := "vectorizedHashCode", desc := "(Ljava/lang/Object;IIII)I" } : Jvm.MethodName) jdk_48_method_4_code (5 : Nat) (Option.some Jvm.ClassFile.FieldType.int), Jvm.Cond.code ({ cls := "jdk/internal/util/ArraysSupport", name := "signedHashCode", desc := "(I[BII)I" } : Jvm.MethodName) jdk_48_method_5_code (6 : Nat) (Option.some Jvm.ClassFile.FieldType.int)]
set_option maxRecDepth 65536 in
theorem codes_eq : words1.filter isCode = codes1 := rfl
theorem w_codes : ∀ c ∈ words1.filter isCode, c.before args0 about1 = true := by
  rw [codes_eq]
  intro c hc
  simp only [codes1, List.mem_cons, List.not_mem_nil, or_false] at hc
  rcases hc with rfl | rfl | rfl | rfl | rfl | rfl | rfl | rfl | rfl | rfl | rfl | rfl | rfl | rfl | rfl | rfl | rfl | rfl | rfl | rfl | rfl | rfl | rfl | rfl | rfl | rfl | rfl | rfl | rfl | rfl | rfl | rfl | rfl | rfl | rfl | rfl | rfl | rfl | rfl | rfl | rfl | rfl
  · exact w_c0
  · exact w_c1
  · exact w_c2
  · exact w_c3
  · exact w_c4
  · exact w_c5
  · exact w_c6
  · exact w_c7
  · exact w_c8
  · exact w_c9
  · exact w_c10
  · exact w_c11
  · exact w_c12
  · exact w_c13
  · exact w_c14
  · exact w_c15
  · exact w_c16
  · exact w_c17
  · exact w_c18
  · exact w_c19
  · exact w_c20
  · exact w_c21
  · exact w_c22
  · exact w_c23
  · exact w_c24
  · exact w_c25
  · exact w_c26
  · exact w_c27
  · exact w_c28
  · exact w_c29
  · exact w_c30
  · exact w_c31
  · exact w_c32
  · exact w_c33
  · exact w_c34
  · exact w_c35
  · exact w_c36
  · exact w_c37
  · exact w_c38
  · exact w_c39
  · exact w_c40
  · exact w_c41
set_option maxRecDepth 65536 in
theorem w_t1 : (words1.take 24).all (fun c => isCode c || c.before args0 about1) = true := by decide +kernel
set_option maxRecDepth 65536 in
theorem w_t2 : ((words1.drop 24).take 24).all (fun c => isCode c || c.before args0 about1) = true := by decide +kernel
set_option maxRecDepth 65536 in
theorem w_t3 : (((words1.drop 24).drop 24).take 24).all (fun c => isCode c || c.before args0 about1) = true := by decide +kernel
set_option maxRecDepth 65536 in
theorem w_t4 : ((((words1.drop 24).drop 24).drop 24).take 24).all (fun c => isCode c || c.before args0 about1) = true := by decide +kernel
set_option maxRecDepth 65536 in
theorem w_t5 : (((((words1.drop 24).drop 24).drop 24).drop 24).take 24).all (fun c => isCode c || c.before args0 about1) = true := by decide +kernel
set_option maxRecDepth 65536 in
theorem w_t6 : ((((((words1.drop 24).drop 24).drop 24).drop 24).drop 24).take 24).all (fun c => isCode c || c.before args0 about1) = true := by decide +kernel
set_option maxRecDepth 65536 in
theorem w_t7 : (((((((words1.drop 24).drop 24).drop 24).drop 24).drop 24).drop 24).take 24).all (fun c => isCode c || c.before args0 about1) = true := by decide +kernel
set_option maxRecDepth 65536 in
theorem w_t8 : ((((((((words1.drop 24).drop 24).drop 24).drop 24).drop 24).drop 24).drop 24).take 24).all (fun c => isCode c || c.before args0 about1) = true := by decide +kernel
set_option maxRecDepth 65536 in
theorem w_t9 : (((((((((words1.drop 24).drop 24).drop 24).drop 24).drop 24).drop 24).drop 24).drop 24).take 24).all (fun c => isCode c || c.before args0 about1) = true := by decide +kernel
set_option maxRecDepth 65536 in
theorem w_t10 : (((((((((words1.drop 24).drop 24).drop 24).drop 24).drop 24).drop 24).drop 24).drop 24).drop 24).all (fun c => isCode c || c.before args0 about1) = true := by decide +kernel
theorem w_tables : (allAtoms (Jvm.Cond.code x code maxLocals ret :: tables_1)).before args0 about1 = true := by
  rw [allAtoms_all]
  show words1.all (fun c => c.before args0 about1) = true
  refine all_split ?_ w_codes
  rw [← List.take_append_drop 24 words1, List.all_append, w_t1, ← List.take_append_drop 24 (words1.drop 24), List.all_append, w_t2, ← List.take_append_drop 24 ((words1.drop 24).drop 24), List.all_append, w_t3, ← List.take_append_drop 24 (((words1.drop 24).drop 24).drop 24), List.all_append, w_t4, ← List.take_append_drop 24 ((((words1.drop 24).drop 24).drop 24).drop 24), List.all_append, w_t5, ← List.take_append_drop 24 (((((words1.drop 24).drop 24).drop 24).drop 24).drop 24), List.all_append, w_t6, ← List.take_append_drop 24 ((((((words1.drop 24).drop 24).drop 24).drop 24).drop 24).drop 24), List.all_append, w_t7, ← List.take_append_drop 24 (((((((words1.drop 24).drop 24).drop 24).drop 24).drop 24).drop 24).drop 24), List.all_append, w_t8, ← List.take_append_drop 24 ((((((((words1.drop 24).drop 24).drop 24).drop 24).drop 24).drop 24).drop 24).drop 24), List.all_append, w_t9, w_t10]
  rfl
set_option maxRecDepth 65536 in
theorem w_rest : rest_1_c.before args0 about1 = true := by decide +kernel
set_option maxRecDepth 65536 in
theorem w_case : (Jvm.Cond.and given_1 narrow_1).before args0 about1 = true := by decide +kernel
set_option maxRecDepth 65536 in
theorem w_consts : constsHeld consts_1 about1 := Jvm.Lit.constsHeldB_iff.mp (by decide +kernel)
theorem w_applies : (headSpec (Jvm.Cond.code x code maxLocals ret :: tables_1) room_1).applies x e0.platform about1 = true :=
  (Spec.applies_iff w_frames).mpr ⟨w_running, w_runnable, w_alone, w_named, w_hears, w_ripe, w_room, w_tables⟩
theorem atStart : AtStart classFile x code maxLocals ret World_1 tables_1 room_1 Calls_1 rest_1 Pre_1 launch0 p0 e0 about1 theMethod args0 below0 :=
  ⟨lists_1, trivial, launch0.admits_env _ _ _, launch0.least_env, fairChoices_fair.cas, fairChoices_fair.clock, w_frames, w_args, w_heap, w_applies, ⟨w_consts, trivial⟩, w_rest, w_case⟩
end start1
theorem witness_1 : WitnessClaimed_1 := ⟨start1.p0, start1.e0, start1.about1, start1.theMethod, start1.args0, start1.below0, start1.atStart⟩
end Jvm.Pilot.@@N@@
