import JvmDerived
import JvmDerived.Pilot.@@N@@Statement
import JvmDerived.Pilot.@@N@@Code
set_option linter.unusedVariables false
set_option linter.unusedSimpArgs false
/- laws to paste: Road.backV, Road.backArv, Road.codOf, Road.eqW, lo8_mask (cut by pick.py; bodies as the Statement names them) -/
namespace Jvm.Pilot.@@N@@
namespace StrChars
open Jvm Sem ClassFile Op Lib Jvm.Stand Jvm.Free.XT Jvm.Free.ALB Jvm.Free.JM Jvm.Free
open Jvm.Lib.Cold (StaticIs)
/-- a char array whose places are chars -/
def Ch (a : Addr) (A : Cell) (U : State) : Prop := Arr .char a A U ∧ Typed .char A
theorem Ch.mv {a : Addr} {A : Cell} {U U' : State} (h : Ch a A U) (hal : U.vm.Alike U'.vm) (hh : U'.heap = U.heap) : Ch a A U' := ⟨h.1.mv hal hh, h.2⟩
theorem Ch.keep {a : Addr} {A : Cell} {U U' : State} (h : Ch a A U) (hal : U.vm.Alike U'.vm) (hk : U'.heap[a]? = some A) : Ch a A U' := ⟨h.1.keep hal hk, h.2⟩
/-- what place i of a char[]'s cell holds -/
def cv (A : Cell) (i : Nat) : Int32 := match A.slots[i]? with | some (.int x) => x | _ => 0
theorem Ch.get {a : Addr} {A : Cell} {U : State} (h : Ch a A U) {i : Nat} (hi : i < A.slots.size) : A.slots[i]? = some (.int (cv A i)) := by
  have e := Array.getElem?_eq_getElem hi
  have f := h.2 i _ e
  unfold cv; rw [e]
  generalize A.slots[i] = v at f
  cases v <;> simp [fits] at f ⊢
/-- the byte that i2b leaves of a char -/
def lo8 (x : Int32) : Int32 := x.toInt8.toInt32
theorem fits_lo8 (y : Int32) : fits .byte (.int (lo8 y)) = true := by
  have h1 := y.toInt8.le_toInt
  have h2 := y.toInt8.toInt_lt
  simp only [lo8, fits, Bool.and_eq_true, decide_eq_true_eq, Int32.le_iff_toInt_le, Int8.toInt_toInt32, show (-128 : Int32).toInt = -128 from by decide, show (127 : Int32).toInt = 127 from by decide]
  omega
/-- A' is A but that each place j of lo .. hi - 1 holds f j -/
def Laid (A A' : Cell) (lo hi : Nat) (f : Nat → Value) : Prop := A'.cls = A.cls ∧ A'.vm = A.vm ∧ A'.slots.size = A.slots.size ∧ ∀ i, A'.slots[i]? = if lo ≤ i ∧ i < hi then some (f i) else A.slots[i]?
theorem Laid.zero (A : Cell) (lo : Nat) (f : Nat → Value) : Laid A A lo (lo + 0) f := ⟨rfl, rfl, rfl, fun i => by rw [if_neg (by omega)]⟩
theorem Laid.step {A Ak : Cell} {lo k : Nat} {f : Nat → Value} {v : Value} (h : Laid A Ak lo k f) (hlo : lo ≤ k) (hk : k < Ak.slots.size) (hv : v = f k) : Laid A (Ak.setSlot k v) lo (k + 1) f := by
  refine ⟨h.1, h.2.1, by simpa [Cell.setSlot] using h.2.2.1, fun i => ?_⟩
  by_cases e : k = i
  · subst e; rw [Cell.slots_setSlot_self v hk, if_pos (by omega), hv]
  · rw [Cell.slots_setSlot_ne v e, h.2.2.2 i]
    by_cases q : lo ≤ i ∧ i < k
    · rw [if_pos q, if_pos (by omega)]
    · rw [if_neg q, if_neg (by omega)]
def U16 : String := "java/lang/StringUTF16"
namespace Cmp5
def yN : MethodName := ⟨"java/lang/StringUTF16", "compress", "([CI[BII)I"⟩
abbrev yB : ByteArray := jdk_52_method_21_code
theorem d0 : decode yB 0 = .ok (.iconst 0, 1) := by decide +kernel
theorem d1 : decode yB 1 = .ok (.istore 5, 2) := by decide +kernel
theorem d3 : decode yB 3 = .ok (.iload 5, 2) := by decide +kernel
theorem d5 : decode yB 5 = .ok (.iload 4, 2) := by decide +kernel
theorem d7 : decode yB 7 = .ok (.if_icmp (.ge) 37, 3) := by decide +kernel
theorem d10 : decode yB 10 = .ok (.aload_n 0, 1) := by decide +kernel
theorem d11 : decode yB 11 = .ok (.iload_n 1, 1) := by decide +kernel
theorem d12 : decode yB 12 = .ok (.caload, 1) := by decide +kernel
theorem d13 : decode yB 13 = .ok (.istore 6, 2) := by decide +kernel
theorem d15 : decode yB 15 = .ok (.iload 6, 2) := by decide +kernel
theorem d17 : decode yB 17 = .ok (.sipush 255, 3) := by decide +kernel
theorem d20 : decode yB 20 = .ok (.if_icmp (.le) 6, 3) := by decide +kernel
theorem d26 : decode yB 26 = .ok (.aload_n 2, 1) := by decide +kernel
theorem d27 : decode yB 27 = .ok (.iload_n 3, 1) := by decide +kernel
theorem d28 : decode yB 28 = .ok (.iload 6, 2) := by decide +kernel
theorem d30 : decode yB 30 = .ok (.i2b, 1) := by decide +kernel
theorem d31 : decode yB 31 = .ok (.bastore, 1) := by decide +kernel
theorem d32 : decode yB 32 = .ok (.iinc 1 1, 3) := by decide +kernel
theorem d35 : decode yB 35 = .ok (.iinc 3 1, 3) := by decide +kernel
theorem d38 : decode yB 38 = .ok (.iinc 5 1, 3) := by decide +kernel
theorem d41 : decode yB 41 = .ok (.goto (-38), 3) := by decide +kernel
theorem d44 : decode yB 44 = .ok (.iload 4, 2) := by decide +kernel
theorem d46 : decode yB 46 = .ok (.ireturn, 1) := by decide +kernel
def site : List Cond := []
def tab : Cond := tabOf yN yB 7 (some .int) site
def P (b : Addr) (A : Cell) (d : Addr) (B : Cell) (o q len : Nat) (args : Array Value) (s : State) : Prop := args = #[.ref b, .int (Int32.ofNat o), .ref d, .int (Int32.ofNat q), .int (Int32.ofNat len)] ∧ Ch b A s ∧ Arr .byte d B s ∧ b ≠ d ∧ o + len ≤ A.slots.size ∧ q + len ≤ B.slots.size ∧ ∀ i, i < len → ¬ 255 < cv A (o + i)
def E (b : Addr) (A : Cell) (d : Addr) (B : Cell) (o q len : Nat) (r : Option Value) (s u : State) : Prop := r = some (.int (Int32.ofNat len)) ∧ ∃ B', Put d B' s u ∧ Laid B B' q (q + len) (fun j => Value.int (lo8 (cv A (o + (j - q)))))
/-- no char of the range above 255: len; the places written hold each char's low byte -/
theorem law (l : Launch) (b : Addr) (A : Cell) (d : Addr) (B : Cell) (o q len : Nat) : Law l yN 5 5 0 0 yB 7 (some .int) site (P b A d B o q len) (E b A d B o q len) (copyLocs d q len) 0 0 := by
  refine Law.of_walk (plainFor_of_name (by decide +kernel)) (by decide +kernel) (by decide +kernel) (by decide) (fun _ _ h => by rw [h.1]; rfl) (fun _ U U' hal hh h => ⟨h.1, h.2.1.mv hal hh, h.2.2.1.mv hal hh, h.2.2.2⟩) (fun r U U' V V' h1 hal h2 h => ⟨h.1, h.2.elim fun B' q => ⟨B', q.1.mv h1 h2, q.2⟩⟩) ?_
  intro p e s m args below meth c s₁ X0 hexec hbytes hml hret hlk hnm hown hh0 W hP
  obtain ⟨rfl, hA, hB, hne, l1, l2, hp⟩ := hP
  have c1 : Steps p.tables e below (s₁.setTop (entryFrame m #[.ref b, .int (Int32.ofNat o), .ref d, .int (Int32.ofNat q), .int (Int32.ofNat len)] 7)) (s₁.setTop (mkF m 0 #[.val (.ref b), .val (.int (Int32.ofNat o)), .val (.ref d), .val (.int (Int32.ofNat q)), .val (.int (Int32.ofNat len)), .unset, .unset] [])) := entry rfl
  have hA0 := hA.1.mv X0.warmed.alike hh0
  have hB0 := hB.mv X0.warmed.alike hh0
  have a31 := hA.1.2.2.2
  have c2 : Steps p.tables e below (s₁.setTop (entryFrame m #[.ref b, .int (Int32.ofNat o), .ref d, .int (Int32.ofNat q), .int (Int32.ofNat len)] 7)) (s₁.setTop (mkF m 3 #[.val (.ref b), .val (.int (Int32.ofNat o)), .val (.ref d), .val (.int (Int32.ofNat q)), .val (.int (Int32.ofNat len)), .val (.int 0), .unset] [])) := c1.trans (by
    refine iconstV X0.here hexec rfl 0 (hb hbytes d0) (by decide) ?_
    refine XS.istore X0.here hexec rfl (hb hbytes d1) rfl rfl ?_
    exact Steps.refl _)
  have loop : ∀ (r i : Nat), i + r = len → ∀ (z : Slot), (z = .unset ∨ ∃ w, z = .val w ∧ w.category = 1) → ∀ (Tl : State) (Bk : Cell), Stand p l e { frames := 0, locals := 0, cells := 0, slots := 0 } s m #[.ref b, .int (Int32.ofNat o), .ref d, .int (Int32.ofNat q), .int (Int32.ofNat len)] below meth c Tl ([] ++ copyLocs d q i) 0 0 → Put d Bk s₁ Tl → Laid B Bk q (q + i) (fun j => Value.int (lo8 (cv A (o + (j - q))))) →
      Steps p.tables e below (s₁.setTop (entryFrame m #[.ref b, .int (Int32.ofNat o), .ref d, .int (Int32.ofNat q), .int (Int32.ofNat len)] 7)) (Tl.setTop (mkF m 3 #[.val (.ref b), .val (.int (Int32.ofNat (o + i))), .val (.ref d), .val (.int (Int32.ofNat (q + i))), .val (.int (Int32.ofNat len)), .val (.int (Int32.ofNat i)), z] [])) → ∃ (T' : State) (B' : Cell) (z' : Slot), Stand p l e { frames := 0, locals := 0, cells := 0, slots := 0 } s m #[.ref b, .int (Int32.ofNat o), .ref d, .int (Int32.ofNat q), .int (Int32.ofNat len)] below meth c T' ([] ++ copyLocs d q len) 0 0 ∧ Put d B' s₁ T' ∧ Laid B B' q (q + len) (fun j => Value.int (lo8 (cv A (o + (j - q))))) ∧
      Steps p.tables e below (s₁.setTop (entryFrame m #[.ref b, .int (Int32.ofNat o), .ref d, .int (Int32.ofNat q), .int (Int32.ofNat len)] 7)) (T'.setTop (mkF m 3 #[.val (.ref b), .val (.int (Int32.ofNat (o + len))), .val (.ref d), .val (.int (Int32.ofNat (q + len))), .val (.int (Int32.ofNat len)), .val (.int (Int32.ofNat len)), z'] [])) := by
    intro r
    induction r with
    | zero =>
      intro i hi z hz Tl Bk Xl pl fl cl
      have hil : i = len := by omega
      rw [hil] at Xl fl cl
      exact ⟨Tl, Bk, z, Xl, pl, fl, cl⟩
    | succ r ih =>
      intro i hi z hz Tl Bk Xl pl fl cl
      have all := X0.warmed.alike.symm.trans Xl.warmed.alike
      have hAl := hA0.keep all (pl.other hne hA0.1)
      have hBk := hB0.like all pl.1 fl.1 fl.2.1 fl.2.2.1
      have hlt : q + i < Bk.slots.size := by rw [fl.2.2.1]; omega
      have c3 : Steps p.tables e below (s₁.setTop (entryFrame m #[.ref b, .int (Int32.ofNat o), .ref d, .int (Int32.ofNat q), .int (Int32.ofNat len)] 7)) (Tl.setTop (mkF m 12 #[.val (.ref b), .val (.int (Int32.ofNat (o + i))), .val (.ref d), .val (.int (Int32.ofNat (q + i))), .val (.int (Int32.ofNat len)), .val (.int (Int32.ofNat i)), z] [.int (Int32.ofNat (o + i)), .ref b])) := cl.trans (by
        refine XS.iload Xl.here hexec rfl (hb hbytes d3) rfl ?_
        refine XS.iload Xl.here hexec rfl (hb hbytes d5) rfl ?_
        refine XS.icmpNo Xl.here hexec rfl (hb hbytes d7) rfl (ii_ge_f (lt32 (by omega) (by omega))) ?_
        refine XS.aloadN Xl.here hexec rfl (hb hbytes d10) rfl rfl ?_
        refine XS.iloadN Xl.here hexec rfl (hb hbytes d11) rfl ?_
        exact Steps.refl _)
      have c4 : Steps p.tables e below (s₁.setTop (entryFrame m #[.ref b, .int (Int32.ofNat o), .ref d, .int (Int32.ofNat q), .int (Int32.ofNat len)] 7)) (Tl.setTop (mkF m 13 #[.val (.ref b), .val (.int (Int32.ofNat (o + i))), .val (.ref d), .val (.int (Int32.ofNat (q + i))), .val (.int (Int32.ofNat len)), .val (.int (Int32.ofNat i)), z] [.int (cv A (o + i))])) := c3.trans (by
        refine Xl.aget hexec hAl rfl (hA.get (i := o + i) (by omega)) rfl rfl (hb hbytes d12) ?_
        exact Steps.refl _)
      have c5 : Steps p.tables e below (s₁.setTop (entryFrame m #[.ref b, .int (Int32.ofNat o), .ref d, .int (Int32.ofNat q), .int (Int32.ofNat len)] 7)) (Tl.setTop (mkF m 15 #[.val (.ref b), .val (.int (Int32.ofNat (o + i))), .val (.ref d), .val (.int (Int32.ofNat (q + i))), .val (.int (Int32.ofNat len)), .val (.int (Int32.ofNat i)), .val (.int (cv A (o + i)))] [])) := c4.trans (by
        refine XS.istoreS Xl.here hexec rfl (hb hbytes d13) rfl rfl hz ?_
        exact Steps.refl _)
      have c6 : Steps p.tables e below (s₁.setTop (entryFrame m #[.ref b, .int (Int32.ofNat o), .ref d, .int (Int32.ofNat q), .int (Int32.ofNat len)] 7)) (Tl.setTop (mkF m 31 #[.val (.ref b), .val (.int (Int32.ofNat (o + i))), .val (.ref d), .val (.int (Int32.ofNat (q + i))), .val (.int (Int32.ofNat len)), .val (.int (Int32.ofNat i)), .val (.int (cv A (o + i)))] [.int (lo8 (cv A (o + i))), .int (Int32.ofNat (q + i)), .ref d])) := c5.trans (by
        refine XS.iload Xl.here hexec rfl (hb hbytes d15) rfl ?_
        refine sipushV Xl.here hexec rfl 255 (hb hbytes d17) (by decide) ?_
        refine XS.icmpYes Xl.here hexec rfl (pc0 := 20) rfl (hb hbytes d20) rfl (ii_le_t (hp i (by omega))) (by decide) rfl ?_
        refine XS.aloadN Xl.here hexec rfl (hb hbytes d26) rfl rfl ?_
        refine XS.iloadN Xl.here hexec rfl (hb hbytes d27) rfl ?_
        refine XS.iload Xl.here hexec rfl (hb hbytes d28) rfl ?_
        refine i2b Xl.here hexec rfl (hb hbytes d30) rfl ?_
        exact Steps.refl _)
      obtain ⟨T7, X7, p7, st7⟩ := Xl.aput hexec hBk rfl hlt rfl (fits_lo8 (cv A (o + i))) (g := (mkF m 31 #[.val (.ref b), .val (.int (Int32.ofNat (o + i))), .val (.ref d), .val (.int (Int32.ofNat (q + i))), .val (.int (Int32.ofNat len)), .val (.int (Int32.ofNat i)), .val (.int (cv A (o + i)))] [.int (lo8 (cv A (o + i))), .int (Int32.ofNat (q + i)), .ref d])) rfl (rest := []) rfl (hb hbytes d31)
      have c8 : Steps p.tables e below (s₁.setTop (entryFrame m #[.ref b, .int (Int32.ofNat o), .ref d, .int (Int32.ofNat q), .int (Int32.ofNat len)] 7)) (T7.setTop (mkF m 32 #[.val (.ref b), .val (.int (Int32.ofNat (o + i))), .val (.ref d), .val (.int (Int32.ofNat (q + i))), .val (.int (Int32.ofNat len)), .val (.int (Int32.ofNat i)), .val (.int (cv A (o + i)))] [])) := c6.trans (st7 _ (Steps.refl _))
      have c9 : Steps p.tables e below (s₁.setTop (entryFrame m #[.ref b, .int (Int32.ofNat o), .ref d, .int (Int32.ofNat q), .int (Int32.ofNat len)] 7)) (T7.setTop (mkF m 3 #[.val (.ref b), .val (.int (Int32.ofNat (o + i) + 1)), .val (.ref d), .val (.int (Int32.ofNat (q + i) + 1)), .val (.int (Int32.ofNat len)), .val (.int (Int32.ofNat i + 1)), .val (.int (cv A (o + i)))] [])) := c8.trans (by
        refine iincV X7.here hexec rfl 1 (hb hbytes d32) (by decide) rfl rfl ?_
        refine iincV X7.here hexec rfl 1 (hb hbytes d35) (by decide) rfl rfl ?_
        refine iincV X7.here hexec rfl 1 (hb hbytes d38) (by decide) rfl rfl ?_
        refine XS.goto X7.here hexec rfl (pc0 := 41) rfl (hb hbytes d41) (by decide) rfl ?_
        exact Steps.refl _)
      have c10 : Steps p.tables e below (s₁.setTop (entryFrame m #[.ref b, .int (Int32.ofNat o), .ref d, .int (Int32.ofNat q), .int (Int32.ofNat len)] 7)) (T7.setTop (mkF m 3 #[.val (.ref b), .val (.int (Int32.ofNat (o + (i + 1)))), .val (.ref d), .val (.int (Int32.ofNat (q + (i + 1)))), .val (.int (Int32.ofNat len)), .val (.int (Int32.ofNat (i + 1))), .val (.int (cv A (o + i)))] [])) := by
        have := c9
        rw [succ32, succ32, succ32] at this
        exact this
      exact ih (i + 1) (by omega) _ (Or.inr ⟨_, rfl, rfl⟩) T7 _ (by rw [copyLocs_step, ← List.append_assoc]; exact X7) (pl.trans p7) (fl.step (by omega) hlt (by simp)) c10
  obtain ⟨T9, B9, z9, X9, p9, f9, g9⟩ := loop len 0 (by omega) .unset (Or.inl rfl) s₁ B (by simpa [copyLocs] using X0) ⟨hB0.1, fun _ _ => rfl, rfl⟩ (Laid.zero _ _ _) c2
  have c11 : Steps p.tables e below (s₁.setTop (entryFrame m #[.ref b, .int (Int32.ofNat o), .ref d, .int (Int32.ofNat q), .int (Int32.ofNat len)] 7)) (T9.setTop (mkF m 46 #[.val (.ref b), .val (.int (Int32.ofNat (o + len))), .val (.ref d), .val (.int (Int32.ofNat (q + len))), .val (.int (Int32.ofNat len)), .val (.int (Int32.ofNat len)), z9] [.int (Int32.ofNat len)])) := g9.trans (by
    refine XS.iload X9.here hexec rfl (hb hbytes d3) rfl ?_
    refine XS.iload X9.here hexec rfl (hb hbytes d5) rfl ?_
    refine XS.icmpYes X9.here hexec rfl (pc0 := 7) rfl (hb hbytes d7) rfl (ii_ge_t (nlt32 (by omega) (Nat.le_refl _))) (by decide) rfl ?_
    refine XS.iload X9.here hexec rfl (hb hbytes d44) rfl ?_
    exact Steps.refl _)
  exact ⟨T9, some (.int (Int32.ofNat len)), _, _, _, X9, by simp, rfl, rfl, (fun h => by cases h), ⟨rfl, B9, p9.from hh0, f9⟩, fun fs hl => c11.trans (X9.ireturnOut hexec hret rfl (Or.inl rfl) (hb hbytes d46) hl)⟩
end Cmp5
namespace Cmp3
def yN : MethodName := ⟨"java/lang/StringUTF16", "compress", "([CII)[B"⟩
abbrev yB : ByteArray := jdk_52_method_16_code
theorem d0 : decode yB 0 = .ok (.iload_n 2, 1) := by decide +kernel
theorem d1 : decode yB 1 = .ok (.newarray .byte, 2) := by decide +kernel
theorem d3 : decode yB 3 = .ok (.astore_n 3, 1) := by decide +kernel
theorem d4 : decode yB 4 = .ok (.aload_n 0, 1) := by decide +kernel
theorem d5 : decode yB 5 = .ok (.iload_n 1, 1) := by decide +kernel
theorem d6 : decode yB 6 = .ok (.aload_n 3, 1) := by decide +kernel
theorem d7 : decode yB 7 = .ok (.iconst 0, 1) := by decide +kernel
theorem d8 : decode yB 8 = .ok (.iload_n 2, 1) := by decide +kernel
theorem d9 : decode yB 9 = .ok (.invokestatic 115, 3) := by decide +kernel
theorem d12 : decode yB 12 = .ok (.istore 4, 2) := by decide +kernel
theorem d14 : decode yB 14 = .ok (.iload 4, 2) := by decide +kernel
theorem d16 : decode yB 16 = .ok (.iload_n 2, 1) := by decide +kernel
theorem d17 : decode yB 17 = .ok (.if_icmp (.eq) 40, 3) := by decide +kernel
theorem d57 : decode yB 57 = .ok (.aload_n 3, 1) := by decide +kernel
theorem d58 : decode yB 58 = .ok (.areturn, 1) := by decide +kernel
def site : List Cond := [.arrayClass .byte, Cmp5.tab] ++ staticW U16 115 Cmp5.yN
def tab : Cond := tabOf yN yB 6 (some (.array .byte)) site
def P (b : Addr) (A : Cell) (o len : Nat) (args : Array Value) (s : State) : Prop := args = #[.ref b, .int (Int32.ofNat o), .int (Int32.ofNat len)] ∧ Ch b A s ∧ o + len ≤ A.slots.size ∧ len ≤ 536870912 ∧ ∀ i, i < len → ¬ 255 < cv A (o + i)
def E (b : Addr) (A : Cell) (o len : Nat) (r : Option Value) (s u : State) : Prop := NewArr .byte "[B" len (fun j => .int (lo8 (cv A (o + j)))) r s u ∧ u.heap.size = s.heap.size + 1
/-- no char of the range above 255: a new byte[] of their low bytes -/
theorem law (l : Launch) (b : Addr) (A : Cell) (o len : Nat) : Law l yN 3 3 1 18 yB 6 (some (.array .byte)) site (P b A o len) (E b A o len) [] 1 len := by
  refine Law.of_walk (plainFor_of_name (by decide +kernel)) (by decide +kernel) (by decide +kernel) (by decide) (fun _ _ h => by rw [h.1]; rfl) (fun _ U U' hal hh h => ⟨h.1, h.2.1.mv hal hh, h.2.2⟩) (fun r U U' V V' h1 hal h2 h => ⟨NewArr.mv r U U' V V' h1 hal h2 h.1, by rw [h1, h2]; exact h.2⟩) ?_
  intro p e s m args below meth c s₁ X0 hexec hbytes hml hret hlk hnm hown hh0 W hP
  obtain ⟨rfl, hA, l1, l2, hp⟩ := hP
  have a31 := hA.1.2.2.2
  have c1 : Steps p.tables e below (s₁.setTop (entryFrame m #[.ref b, .int (Int32.ofNat o), .int (Int32.ofNat len)] 6)) (s₁.setTop (mkF m 0 #[.val (.ref b), .val (.int (Int32.ofNat o)), .val (.int (Int32.ofNat len)), .unset, .unset, .unset] [])) := entry rfl
  have c2 : Steps p.tables e below (s₁.setTop (entryFrame m #[.ref b, .int (Int32.ofNat o), .int (Int32.ofNat len)] 6)) (s₁.setTop (mkF m 1 #[.val (.ref b), .val (.int (Int32.ofNat o)), .val (.int (Int32.ofNat len)), .unset, .unset, .unset] [.int (Int32.ofNat len)])) := c1.trans (by
    refine XS.iloadN X0.here hexec rfl (hb hbytes d0) rfl ?_
    exact Steps.refl _)
  obtain ⟨T3, B3, X3, ba3, bs3, bv3, bh3, bf3, st3⟩ := X0.anew hexec (atype := .byte) (wk W (.arrayClass .byte)) rfl (by show len * 1 ≤ _; omega) (by omega) (g := (mkF m 1 #[.val (.ref b), .val (.int (Int32.ofNat o)), .val (.int (Int32.ofNat len)), .unset, .unset, .unset] [.int (Int32.ofNat len)])) rfl (hb hbytes d1) (rest := []) rfl (Nat.le_refl _) (by show 0 + len ≤ len; omega)
  rw [hh0] at ba3 st3
  have kp3 : XT.Kept s T3 := (XT.Kept.of_eq hh0).push bh3
  have hA3 := hA.keep X3.warmed.alike (kp3 _ _ hA.1.1)
  have hne : b ≠ s.heap.size := hA.1.ne
  have c4 : Steps p.tables e below (s₁.setTop (entryFrame m #[.ref b, .int (Int32.ofNat o), .int (Int32.ofNat len)] 6)) (T3.setTop (mkF m 3 #[.val (.ref b), .val (.int (Int32.ofNat o)), .val (.int (Int32.ofNat len)), .unset, .unset, .unset] [.ref s.heap.size])) := c2.trans (st3 _ (Steps.refl _))
  have c5 : Steps p.tables e below (s₁.setTop (entryFrame m #[.ref b, .int (Int32.ofNat o), .int (Int32.ofNat len)] 6)) (T3.setTop (mkF m 9 #[.val (.ref b), .val (.int (Int32.ofNat o)), .val (.int (Int32.ofNat len)), .val (.ref s.heap.size), .unset, .unset] [.int (Int32.ofNat len), .int 0, .ref s.heap.size, .int (Int32.ofNat o), .ref b])) := c4.trans (by
    refine XS.astoreN X3.here hexec rfl (hb hbytes d3) rfl rfl rfl ?_
    refine XS.aloadN X3.here hexec rfl (hb hbytes d4) rfl rfl ?_
    refine XS.iloadN X3.here hexec rfl (hb hbytes d5) rfl ?_
    refine XS.aloadN X3.here hexec rfl (hb hbytes d6) rfl rfl ?_
    refine iconstV X3.here hexec rfl 0 (hb hbytes d7) (by decide) ?_
    refine XS.iloadN X3.here hexec rfl (hb hbytes d8) rfl ?_
    exact Steps.refl _)
  obtain ⟨v6, T6, X6, E6, g6⟩ := X3.callS hexec (Cmp5.law l b A s.heap.size B3 o 0 len) hown (wks W (staticW U16 115 Cmp5.yN)) (wk W Cmp5.tab) (W := 0) (Nat.le_of_ble_eq_true rfl) (Nat.le_of_ble_eq_true rfl) (Nat.le_refl _) (by show 0 + len + 0 ≤ len; omega) (g := (mkF m 9 #[.val (.ref b), .val (.int (Int32.ofNat o)), .val (.int (Int32.ofNat len)), .val (.ref s.heap.size), .unset, .unset] [.int (Int32.ofNat len), .int (Int32.ofNat 0), .ref s.heap.size, .int (Int32.ofNat o), .ref b])) rfl (by rw [hml]; rfl) c5 (argsL := [.ref b, .int (Int32.ofNat o), .ref s.heap.size, .int (Int32.ofNat 0), .int (Int32.ofNat len)]) (rest := []) rfl rfl (by show 2 * 0 + 0 ≤ _; decide) (hb hbytes d9) (⟨rfl, hA3, ba3, hne, l1, by rw [bs3]; simp, hp⟩)
  obtain ⟨rfl, B6, p6, f6⟩ := E6
  have c7 : Steps p.tables e below (s₁.setTop (entryFrame m #[.ref b, .int (Int32.ofNat o), .int (Int32.ofNat len)] 6)) (T6.setTop (mkF m 12 #[.val (.ref b), .val (.int (Int32.ofNat o)), .val (.int (Int32.ofNat len)), .val (.ref s.heap.size), .unset, .unset] [.int (Int32.ofNat len)])) := g6
  have c8 : Steps p.tables e below (s₁.setTop (entryFrame m #[.ref b, .int (Int32.ofNat o), .int (Int32.ofNat len)] 6)) (T6.setTop (mkF m 58 #[.val (.ref b), .val (.int (Int32.ofNat o)), .val (.int (Int32.ofNat len)), .val (.ref s.heap.size), .val (.int (Int32.ofNat len)), .unset] [.ref s.heap.size])) := c7.trans (by
    refine XS.istore X6.here hexec rfl (hb hbytes d12) rfl rfl ?_
    refine XS.iload X6.here hexec rfl (hb hbytes d14) rfl ?_
    refine XS.iloadN X6.here hexec rfl (hb hbytes d16) rfl ?_
    refine XS.icmpYes X6.here hexec rfl (pc0 := 17) rfl (hb hbytes d17) rfl (ii_eq_t rfl) (by decide) rfl ?_
    refine XS.aloadN X6.here hexec rfl (hb hbytes d57) rfl rfl ?_
    exact Steps.refl _)
  have X8 := X6.wide (L' := []) (cells' := 1) (slots' := len) (fun x hx hlt => by
    simp only [List.nil_append, copyLocs, List.mem_map, List.mem_range] at hx
    obtain ⟨i, -, rfl⟩ := hx
    exact absurd hlt (Nat.lt_irrefl _)) (Nat.le_refl _) (by omega)
  exact ⟨T6, some (.ref s.heap.size), _, _, _, X8, rfl, rfl, rfl, (fun h => by cases h), ⟨⟨rfl, B6, ba3.like (X3.warmed.alike.symm.trans X6.warmed.alike) p6.1 f6.1 f6.2.1 f6.2.2.1, f6.2.1.trans bv3, by rw [X6.warmed.alike.findClass, f6.1]; exact bf3, by rw [f6.2.2.1, bs3]; simp, fun j hj => by rw [f6.2.2.2 j, if_pos (by omega)]; rfl, kp3.put p6 (Nat.le_refl _)⟩, by rw [p6.2.2, bh3, hh0]; simp⟩, fun fs hl => c8.trans (X8.areturnOut hexec rfl hret rfl (hb hbytes d58) hl)⟩
end Cmp3
namespace CodL
def yN : MethodName := ⟨"java/lang/StringUTF16", "coderFromArrayLen", "([BI)B"⟩
abbrev yB : ByteArray := jdk_52_method_15_code
theorem d0 : decode yB 0 = .ok (.iload_n 1, 1) := by decide +kernel
theorem d1 : decode yB 1 = .ok (.aload_n 0, 1) := by decide +kernel
theorem d2 : decode yB 2 = .ok (.arraylength, 1) := by decide +kernel
theorem d3 : decode yB 3 = .ok (.isub, 1) := by decide +kernel
theorem d4 : decode yB 4 = .ok (.bipush 31, 2) := by decide +kernel
theorem d6 : decode yB 6 = .ok (.iushr, 1) := by decide +kernel
theorem d7 : decode yB 7 = .ok (.i2b, 1) := by decide +kernel
theorem d8 : decode yB 8 = .ok (.ireturn, 1) := by decide +kernel
def site : List Cond := []
def tab : Cond := tabOf yN yB 2 (some .byte) site
def P (d : Addr) (B : Cell) (args : Array Value) (s : State) : Prop := args = #[.ref d, .int (Int32.ofNat B.slots.size)] ∧ Arr .byte d B s
def E (r : Option Value) (s u : State) : Prop := XT.PureE (some (.int 0)) r s u
/-- an array as long as the number of chars: LATIN1 -/
theorem law (l : Launch) (d : Addr) (B : Cell) : Law l yN 2 2 0 0 yB 2 (some .byte) site (P d B) E [] 0 0 := by
  refine Law.of_walk (plainFor_of_name (by decide +kernel)) (by decide +kernel) (by decide +kernel) (by decide) (fun _ _ h => by rw [h.1]; rfl) (fun _ U U' hal hh h => ⟨h.1, h.2.mv hal hh⟩) (fun r U U' V V' h1 hal h2 h => XT.PureE.mv r U U' V V' h1 hal h2 h) ?_
  intro p e s m args below meth c s₁ X0 hexec hbytes hml hret hlk hnm hown hh0 W hP
  obtain ⟨rfl, hB⟩ := hP
  have hB0 := hB.mv X0.warmed.alike hh0
  have c1 : Steps p.tables e below (s₁.setTop (entryFrame m #[.ref d, .int (Int32.ofNat B.slots.size)] 2)) (s₁.setTop (mkF m 0 #[.val (.ref d), .val (.int (Int32.ofNat B.slots.size))] [])) := entry rfl
  have c2 : Steps p.tables e below (s₁.setTop (entryFrame m #[.ref d, .int (Int32.ofNat B.slots.size)] 2)) (s₁.setTop (mkF m 2 #[.val (.ref d), .val (.int (Int32.ofNat B.slots.size))] [.ref d, .int (Int32.ofNat B.slots.size)])) := c1.trans (by
    refine XS.iloadN X0.here hexec rfl (hb hbytes d0) rfl ?_
    refine XS.aloadN X0.here hexec rfl (hb hbytes d1) rfl rfl ?_
    exact Steps.refl _)
  have c3 : Steps p.tables e below (s₁.setTop (entryFrame m #[.ref d, .int (Int32.ofNat B.slots.size)] 2)) (s₁.setTop (mkF m 8 #[.val (.ref d), .val (.int (Int32.ofNat B.slots.size))] [.int (lo8 (ushr (Int32.ofNat B.slots.size - Int32.ofNat B.slots.size) 31))])) := c2.trans (by
    refine X0.alen hexec hB0 rfl rfl (hb hbytes d2) ?_
    refine XS.isub X0.here hexec rfl (hb hbytes d3) rfl ?_
    refine bipushV X0.here hexec rfl 31 (hb hbytes d4) (by decide) ?_
    refine iushr X0.here hexec rfl (hb hbytes d6) rfl ?_
    refine i2b X0.here hexec rfl (hb hbytes d7) rfl ?_
    exact Steps.refl _)
  have e0 : lo8 (ushr (Int32.ofNat B.slots.size - Int32.ofNat B.slots.size) 31) = 0 := by rw [Int32.sub_self]; decide
  rw [e0] at c3
  exact ⟨s₁, some (.int 0), _, _, _, X0, rfl, rfl, rfl, (fun h => by cases h), ⟨rfl, hh0⟩, fun fs hl => c3.trans (X0.ireturnOut hexec hret rfl (Or.inr (Or.inr (Or.inl rfl))) (hb hbytes d8) hl)⟩
end CodL
/-- the String at a is Latin-1 over a new byte[] (the heap's one new cell): the low bytes of the len chars of A from o on; every cell but a is kept -/
def Got (a : Addr) (D : Cell) (fV fC : Field) (A : Cell) (o len : Nat) (r : Option Value) (s u : State) : Prop := r = none ∧ ∃ D' V : Cell, Blank "java/lang/String" a D' u ∧ Same D D' [fV.slot, fC.slot] ∧ D'.slots[fV.slot]? = some (.ref s.heap.size) ∧ D'.slots[fC.slot]? = some (.int 0) ∧ Arr .byte s.heap.size V u ∧ V.vm = .none ∧ u.vm.findClass "[B" = some V.cls ∧ V.slots.size = len ∧ (∀ j, j < len → V.slots[j]? = some (.int (lo8 (cv A (o + j))))) ∧ (∀ (y : Addr) (c : Cell), y ≠ a → s.heap[y]? = some c → u.heap[y]? = some c) ∧ u.heap.size = s.heap.size + 1
theorem Got.mv {a : Addr} {D A : Cell} {fV fC : Field} {o len : Nat} : ∀ r (U U' V V' : State), U'.heap = U.heap → V.vm.Alike V'.vm → V'.heap = V.heap → Got a D fV fC A o len r U V → Got a D fV fC A o len r U' V' :=
  fun r U U' V V' h1 hal h2 ⟨e0, D', X, a1, a2, a3, a4, a5, a6, a7, a8, a9, a10, a11⟩ => ⟨e0, D', X, a1.mv hal h2, a2, by rw [h1]; exact a3, a4, by rw [h1]; exact a5.mv hal h2, a6, by rw [hal.findClass]; exact a7, a8, a9, by rw [h1, h2]; exact a10, by rw [h1, h2]; exact a11⟩
namespace New4
def yN : MethodName := ⟨"java/lang/String", "<init>", "([CIILjava/lang/Void;)V"⟩
abbrev yB : ByteArray := jdk_42_method_149_code
theorem d0 : decode yB 0 = .ok (.aload_n 0, 1) := by decide +kernel
theorem d1 : decode yB 1 = .ok (.invokespecial 1, 3) := by decide +kernel
theorem d4 : decode yB 4 = .ok (.iload_n 3, 1) := by decide +kernel
theorem d5 : decode yB 5 = .ok (.ifCond (.ne) 22, 3) := by decide +kernel
theorem d27 : decode yB 27 = .ok (.getstatic 38, 3) := by decide +kernel
theorem d30 : decode yB 30 = .ok (.ifCond (.eq) 28, 3) := by decide +kernel
theorem d33 : decode yB 33 = .ok (.aload_n 1, 1) := by decide +kernel
theorem d34 : decode yB 34 = .ok (.iload_n 2, 1) := by decide +kernel
theorem d35 : decode yB 35 = .ok (.iload_n 3, 1) := by decide +kernel
theorem d36 : decode yB 36 = .ok (.invokestatic 177, 3) := by decide +kernel
theorem d39 : decode yB 39 = .ok (.astore 5, 2) := by decide +kernel
theorem d41 : decode yB 41 = .ok (.aload_n 0, 1) := by decide +kernel
theorem d42 : decode yB 42 = .ok (.aload 5, 2) := by decide +kernel
theorem d44 : decode yB 44 = .ok (.iload_n 3, 1) := by decide +kernel
theorem d45 : decode yB 45 = .ok (.invokestatic 47, 3) := by decide +kernel
theorem d48 : decode yB 48 = .ok (.putfield 15, 3) := by decide +kernel
theorem d51 : decode yB 51 = .ok (.aload_n 0, 1) := by decide +kernel
theorem d52 : decode yB 52 = .ok (.aload 5, 2) := by decide +kernel
theorem d54 : decode yB 54 = .ok (.putfield 9, 3) := by decide +kernel
theorem d57 : decode yB 57 = .ok (.return_, 1) := by decide +kernel
def site : List Cond := [.fieldLink "java/lang/String" 38 "java/lang/String" "COMPACT_STRINGS" "Z", Cmp3.tab, CodL.tab, .laysFinal "java/lang/String" "java/lang/String" "value" "[B", .fieldLink "java/lang/String" 9 "java/lang/String" "value" "[B", .laysFinal "java/lang/String" "java/lang/String" "coder" "B", .fieldLink "java/lang/String" 15 "java/lang/String" "coder" "B"] ++ objW "java/lang/String" 1 ++ staticW "java/lang/String" 177 Cmp3.yN ++ staticW "java/lang/String" 47 CodL.yN
def tab : Cond := tabOf yN yB 6 none site
def P (a : Addr) (D : Cell) (fV fC : Field) (b : Addr) (A : Cell) (z : Int32) (o len : Nat) (args : Array Value) (s : State) : Prop := args = #[.ref a, .ref b, .int (Int32.ofNat o), .int (Int32.ofNat len), .null] ∧ Blank "java/lang/String" a D s ∧ Found "java/lang/String" "value" "[B" fV s ∧ Found "java/lang/String" "coder" "B" fC s ∧ Ch b A s ∧ StaticIs s "java/lang/String" "COMPACT_STRINGS" "Z" (.int z) ∧ ¬ z = 0 ∧ 0 < len ∧ o + len ≤ A.slots.size ∧ len ≤ 536870912 ∧ ∀ i, i < len → ¬ 255 < cv A (o + i)
def E (a : Addr) (D : Cell) (fV fC : Field) (A : Cell) (o len : Nat) (r : Option Value) (s u : State) : Prop := Got a D fV fC A o len r s u
/-- len > 0, no char of the range above 255: a Latin-1 String of their low bytes -/
theorem law (l : Launch) (a : Addr) (D : Cell) (fV fC : Field) (b : Addr) (A : Cell) (z : Int32) (o len : Nat) : Law l yN 5 4 2 35 yB 6 none site (P a D fV fC b A z o len) (E a D fV fC A o len) [⟨a, fC.slot⟩, ⟨a, fV.slot⟩] 1 len := by
  refine Law.of_walk (plainFor_of_name (by decide +kernel)) (by decide +kernel) (by decide +kernel) (by decide) (fun _ _ h => by rw [h.1]; rfl) (fun _ U U' hal hh h => ⟨h.1, h.2.1.mv hal hh, h.2.2.1.al hal, h.2.2.2.1.al hal, h.2.2.2.2.1.mv hal hh, h.2.2.2.2.2.1.there hal hh, h.2.2.2.2.2.2⟩) (fun r U U' V V' h1 hal h2 h => Got.mv r U U' V V' h1 hal h2 h) ?_
  intro p e s m args below meth c s₁ X0 hexec hbytes hml hret hlk hnm hown hh0 W hP
  obtain ⟨rfl, hB, f1, f2, hA, s1, hz, l0, l1, l2, hp⟩ := hP
  have a31 := hA.1.2.2.2
  have c1 : Steps p.tables e below (s₁.setTop (entryFrame m #[.ref a, .ref b, .int (Int32.ofNat o), .int (Int32.ofNat len), .null] 6)) (s₁.setTop (mkF m 0 #[.val (.ref a), .val (.ref b), .val (.int (Int32.ofNat o)), .val (.int (Int32.ofNat len)), .val .null, .unset] [])) := entry rfl
  have c2 : Steps p.tables e below (s₁.setTop (entryFrame m #[.ref a, .ref b, .int (Int32.ofNat o), .int (Int32.ofNat len), .null] 6)) (s₁.setTop (mkF m 1 #[.val (.ref a), .val (.ref b), .val (.int (Int32.ofNat o)), .val (.int (Int32.ofNat len)), .val .null, .unset] [.ref a])) := c1.trans (by
    refine XS.aloadN X0.here hexec rfl (hb hbytes d0) rfl rfl ?_
    exact Steps.refl _)
  obtain ⟨T3, X3, q3, st3⟩ := X0.oinit hexec hown (wks W (objW "java/lang/String" 1)) (g := (mkF m 1 #[.val (.ref a), .val (.ref b), .val (.int (Int32.ofNat o)), .val (.int (Int32.ofNat len)), .val .null, .unset] [.ref a])) rfl (by rw [hml]; rfl) (rest := []) rfl (hb hbytes d1) (W := 0) (by show 2 * 0 + 0 ≤ _; decide) (Nat.le_of_ble_eq_true rfl) (Nat.le_of_ble_eq_true rfl)
  have hh3 := q3.trans hh0
  have c4 : Steps p.tables e below (s₁.setTop (entryFrame m #[.ref a, .ref b, .int (Int32.ofNat o), .int (Int32.ofNat len), .null] 6)) (T3.setTop (mkF m 27 #[.val (.ref a), .val (.ref b), .val (.int (Int32.ofNat o)), .val (.int (Int32.ofNat len)), .val .null, .unset] [])) := (c2.trans (st3 _ (Steps.refl _))).trans (by
    refine XS.iloadN X3.here hexec rfl (hb hbytes d4) rfl ?_
    refine XS.ifYes X3.here hexec rfl (pc0 := 5) rfl (hb hbytes d5) rfl (i0_ne_t (nz32 (by omega) l0)) (by decide) rfl ?_
    exact Steps.refl _)
  obtain ⟨T5, X5, q5, st5⟩ := X3.sget hexec hown (wk W (.fieldLink "java/lang/String" 38 "java/lang/String" "COMPACT_STRINGS" "Z")) s1 (fun _ _ h => by rw [hh3]; exact h) (g := (mkF m 27 #[.val (.ref a), .val (.ref b), .val (.int (Int32.ofNat o)), .val (.int (Int32.ofNat len)), .val .null, .unset] [])) rfl (hb hbytes d27)
  have hh5 := q5.trans hh3
  have c6 : Steps p.tables e below (s₁.setTop (entryFrame m #[.ref a, .ref b, .int (Int32.ofNat o), .int (Int32.ofNat len), .null] 6)) (T5.setTop (mkF m 30 #[.val (.ref a), .val (.ref b), .val (.int (Int32.ofNat o)), .val (.int (Int32.ofNat len)), .val .null, .unset] [.int z])) := c4.trans (st5 _ (Steps.refl _))
  have c7 : Steps p.tables e below (s₁.setTop (entryFrame m #[.ref a, .ref b, .int (Int32.ofNat o), .int (Int32.ofNat len), .null] 6)) (T5.setTop (mkF m 36 #[.val (.ref a), .val (.ref b), .val (.int (Int32.ofNat o)), .val (.int (Int32.ofNat len)), .val .null, .unset] [.int (Int32.ofNat len), .int (Int32.ofNat o), .ref b])) := c6.trans (by
    refine XS.ifNo X5.here hexec rfl (hb hbytes d30) rfl (i0_eq_f hz) ?_
    refine XS.aloadN X5.here hexec rfl (hb hbytes d33) rfl rfl ?_
    refine XS.iloadN X5.here hexec rfl (hb hbytes d34) rfl ?_
    refine XS.iloadN X5.here hexec rfl (hb hbytes d35) rfl ?_
    exact Steps.refl _)
  obtain ⟨v8, T8, X8, E8, g8⟩ := X5.callS hexec (Cmp3.law l b A o len) hown (wks W (staticW "java/lang/String" 177 Cmp3.yN)) (wk W Cmp3.tab) (W := 0) (Nat.le_of_ble_eq_true rfl) (Nat.le_of_ble_eq_true rfl) (Nat.le_refl _) (by show 0 + len ≤ len; omega) (g := (mkF m 36 #[.val (.ref a), .val (.ref b), .val (.int (Int32.ofNat o)), .val (.int (Int32.ofNat len)), .val .null, .unset] [.int (Int32.ofNat len), .int (Int32.ofNat o), .ref b])) rfl (by rw [hml]; rfl) c7 (argsL := [.ref b, .int (Int32.ofNat o), .int (Int32.ofNat len)]) (rest := []) rfl rfl (by show 2 * 0 + 0 ≤ _; decide) (hb hbytes d36) (⟨rfl, hA.mv X5.warmed.alike hh5, l1, l2, hp⟩)
  obtain ⟨e8, z8⟩ := E8
  obtain ⟨rfl, N, n1, n2, n3, n4, n5, n6⟩ := NewArr.mv _ T5 s _ _ hh5.symm (Vm.Alike.refl _) rfl e8
  rw [hh5] at z8
  have hB1 := hB.keep X8.warmed.alike (n6 _ _ hB.1)
  have hne : s.heap.size ≠ a := (Nat.ne_of_lt (Array.getElem?_eq_some_iff.mp hB.1).1).symm
  have c9 : Steps p.tables e below (s₁.setTop (entryFrame m #[.ref a, .ref b, .int (Int32.ofNat o), .int (Int32.ofNat len), .null] 6)) (T8.setTop (mkF m 39 #[.val (.ref a), .val (.ref b), .val (.int (Int32.ofNat o)), .val (.int (Int32.ofNat len)), .val .null, .unset] [.ref s.heap.size])) := g8
  have c10 : Steps p.tables e below (s₁.setTop (entryFrame m #[.ref a, .ref b, .int (Int32.ofNat o), .int (Int32.ofNat len), .null] 6)) (T8.setTop (mkF m 45 #[.val (.ref a), .val (.ref b), .val (.int (Int32.ofNat o)), .val (.int (Int32.ofNat len)), .val .null, .val (.ref s.heap.size)] [.int (Int32.ofNat N.slots.size), .ref s.heap.size, .ref a])) := by
    have hc : Steps p.tables e below (s₁.setTop (entryFrame m #[.ref a, .ref b, .int (Int32.ofNat o), .int (Int32.ofNat len), .null] 6)) (T8.setTop (mkF m 45 #[.val (.ref a), .val (.ref b), .val (.int (Int32.ofNat o)), .val (.int (Int32.ofNat len)), .val .null, .val (.ref s.heap.size)] [.int (Int32.ofNat len), .ref s.heap.size, .ref a])) := c9.trans (by
      refine XS.astore X8.here hexec rfl (hb hbytes d39) rfl rfl rfl ?_
      refine XS.aloadN X8.here hexec rfl (hb hbytes d41) rfl rfl ?_
      refine XS.aload X8.here hexec rfl (hb hbytes d42) rfl rfl ?_
      refine XS.iloadN X8.here hexec rfl (hb hbytes d44) rfl ?_
      exact Steps.refl _)
    rw [n4]; exact hc
  obtain ⟨v11, T11, X11, E11, g11⟩ := X8.callS hexec (CodL.law l s.heap.size N) hown (wks W (staticW "java/lang/String" 47 CodL.yN)) (wk W CodL.tab) (W := 1) (Nat.le_of_ble_eq_true rfl) (Nat.le_of_ble_eq_true rfl) (Nat.le_refl _) (by show 0 + len + 0 ≤ len; omega) (g := (mkF m 45 #[.val (.ref a), .val (.ref b), .val (.int (Int32.ofNat o)), .val (.int (Int32.ofNat len)), .val .null, .val (.ref s.heap.size)] [.int (Int32.ofNat N.slots.size), .ref s.heap.size, .ref a])) rfl (by rw [hml]; rfl) c10 (argsL := [.ref s.heap.size, .int (Int32.ofNat N.slots.size)]) (rest := [.ref a]) rfl rfl (by show 2 * 0 + (1 + 0) ≤ _; decide) (hb hbytes d45) (⟨rfl, n1⟩)
  obtain ⟨rfl, q11⟩ := E11
  have hB11 := hB1.mv (X8.warmed.alike.symm.trans X11.warmed.alike) q11
  have c12 : Steps p.tables e below (s₁.setTop (entryFrame m #[.ref a, .ref b, .int (Int32.ofNat o), .int (Int32.ofNat len), .null] 6)) (T11.setTop (mkF m 48 #[.val (.ref a), .val (.ref b), .val (.int (Int32.ofNat o)), .val (.int (Int32.ofNat len)), .val .null, .val (.ref s.heap.size)] [.int 0, .ref a])) := g11
  obtain ⟨T13, X13, p13, bl13, sl13, st13⟩ := X11.finit hexec hown (wk W (.fieldLink "java/lang/String" 15 "java/lang/String" "coder" "B")) (Or.inr ⟨_, (wk W (.laysFinal "java/lang/String" "java/lang/String" "coder" "B"))⟩) (Or.inl ⟨rfl, hnm⟩) f2 (Or.inl rfl) hB11 (t := .byte) (by decide +kernel) rfl (g := (mkF m 48 #[.val (.ref a), .val (.ref b), .val (.int (Int32.ofNat o)), .val (.int (Int32.ofNat len)), .val .null, .val (.ref s.heap.size)] [.int 0, .ref a])) rfl (rest := []) rfl (hb hbytes d48)
  have c14 : Steps p.tables e below (s₁.setTop (entryFrame m #[.ref a, .ref b, .int (Int32.ofNat o), .int (Int32.ofNat len), .null] 6)) (T13.setTop (mkF m 54 #[.val (.ref a), .val (.ref b), .val (.int (Int32.ofNat o)), .val (.int (Int32.ofNat len)), .val .null, .val (.ref s.heap.size)] [.ref s.heap.size, .ref a])) := (c12.trans (st13 _ (Steps.refl _))).trans (by
    refine XS.aloadN X13.here hexec rfl (hb hbytes d51) rfl rfl ?_
    refine XS.aload X13.here hexec rfl (hb hbytes d52) rfl rfl ?_
    exact Steps.refl _)
  obtain ⟨T15, X15, p15, bl15, sl15, st15⟩ := X13.finit hexec hown (wk W (.fieldLink "java/lang/String" 9 "java/lang/String" "value" "[B")) (Or.inr ⟨_, (wk W (.laysFinal "java/lang/String" "java/lang/String" "value" "[B"))⟩) (Or.inl ⟨rfl, hnm⟩) f1 (Or.inl rfl) bl13 (t := (.array .byte)) (by decide +kernel) rfl (g := (mkF m 54 #[.val (.ref a), .val (.ref b), .val (.int (Int32.ofNat o)), .val (.int (Int32.ofNat len)), .val .null, .val (.ref s.heap.size)] [.ref s.heap.size, .ref a])) rfl (rest := []) rfl (hb hbytes d54)
  have c16 : Steps p.tables e below (s₁.setTop (entryFrame m #[.ref a, .ref b, .int (Int32.ofNat o), .int (Int32.ofNat len), .null] 6)) (T15.setTop (mkF m 57 #[.val (.ref a), .val (.ref b), .val (.int (Int32.ofNat o)), .val (.int (Int32.ofNat len)), .val .null, .val (.ref s.heap.size)] [])) := c14.trans (st15 _ (Steps.refl _))
  have ap := apart (Or.inr ⟨_, (wk W (.laysFinal "java/lang/String" "java/lang/String" "value" "[B"))⟩) (Or.inr ⟨_, (wk W (.laysFinal "java/lang/String" "java/lang/String" "coder" "B"))⟩) f1 f2 (t₁ := .array .byte) (t₂ := .byte) (by decide +kernel) (by decide +kernel) (by decide)
  have al := X8.warmed.alike.symm.trans X15.warmed.alike
  have n7 : T11.heap[s.heap.size]? = some N := by rw [q11]; exact n1.1
  exact ⟨T15, none, _, _, _, X15, by simp, rfl, by omega, (fun _ => rfl), ⟨rfl, _, N, bl15, ((Same.refl D _).set _ (by simp)).set _ (by simp), sl15, (Cell.slots_setSlot_ne _ ap).trans sl13, n1.keep al (p15.other hne (p13.other hne n7)), n2, by rw [al.findClass]; exact n3, n4, n5, fun y c h1 h2 => p15.other h1 (p13.other h1 (by rw [q11]; exact n6 y c h2)), by rw [p15.2.2, p13.2.2, q11]; exact z8⟩, fun fs hl => c16.trans (X15.returnOut hexec hret (hb hbytes d57) hl)⟩
end New4
namespace New1
def yN : MethodName := ⟨"java/lang/String", "<init>", "([C)V"⟩
abbrev yB : ByteArray := jdk_42_method_3_code
theorem d0 : decode yB 0 = .ok (.aload_n 0, 1) := by decide +kernel
theorem d1 : decode yB 1 = .ok (.aload_n 1, 1) := by decide +kernel
theorem d2 : decode yB 2 = .ok (.iconst 0, 1) := by decide +kernel
theorem d3 : decode yB 3 = .ok (.aload_n 1, 1) := by decide +kernel
theorem d4 : decode yB 4 = .ok (.arraylength, 1) := by decide +kernel
theorem d5 : decode yB 5 = .ok (.aconst_null, 1) := by decide +kernel
theorem d6 : decode yB 6 = .ok (.invokespecial 27, 3) := by decide +kernel
theorem d9 : decode yB 9 = .ok (.return_, 1) := by decide +kernel
def site : List Cond := [New4.tab] ++ initW "java/lang/String" 27 New4.yN
def tab : Cond := tabOf yN yB 2 none site
def P (a : Addr) (D : Cell) (fV fC : Field) (b : Addr) (A : Cell) (z : Int32) (args : Array Value) (s : State) : Prop := args = #[.ref a, .ref b] ∧ Blank "java/lang/String" a D s ∧ Found "java/lang/String" "value" "[B" fV s ∧ Found "java/lang/String" "coder" "B" fC s ∧ Ch b A s ∧ StaticIs s "java/lang/String" "COMPACT_STRINGS" "Z" (.int z) ∧ ¬ z = 0 ∧ 0 < A.slots.size ∧ A.slots.size ≤ 536870912 ∧ ∀ i, i < A.slots.size → ¬ 255 < cv A i
def E (a : Addr) (D : Cell) (fV fC : Field) (A : Cell) (r : Option Value) (s u : State) : Prop := Got a D fV fC A 0 A.slots.size r s u
/-- new String(chars), not empty, no char above 255: a Latin-1 String of their low bytes -/
theorem law (l : Launch) (a : Addr) (D : Cell) (fV fC : Field) (b : Addr) (A : Cell) (z : Int32) : Law l yN 2 1 3 52 yB 2 none site (P a D fV fC b A z) (E a D fV fC A) [⟨a, fC.slot⟩, ⟨a, fV.slot⟩] 1 A.slots.size := by
  refine Law.of_walk (plainFor_of_name (by decide +kernel)) (by decide +kernel) (by decide +kernel) (by decide) (fun _ _ h => by rw [h.1]; rfl) (fun _ U U' hal hh h => ⟨h.1, h.2.1.mv hal hh, h.2.2.1.al hal, h.2.2.2.1.al hal, h.2.2.2.2.1.mv hal hh, h.2.2.2.2.2.1.there hal hh, h.2.2.2.2.2.2⟩) (fun r U U' V V' h1 hal h2 h => Got.mv r U U' V V' h1 hal h2 h) ?_
  intro p e s m args below meth c s₁ X0 hexec hbytes hml hret hlk hnm hown hh0 W hP
  obtain ⟨rfl, hB, f1, f2, hA, s1, hz, l0, l2, hp⟩ := hP
  have c1 : Steps p.tables e below (s₁.setTop (entryFrame m #[.ref a, .ref b] 2)) (s₁.setTop (mkF m 0 #[.val (.ref a), .val (.ref b)] [])) := entry rfl
  have c2 : Steps p.tables e below (s₁.setTop (entryFrame m #[.ref a, .ref b] 2)) (s₁.setTop (mkF m 6 #[.val (.ref a), .val (.ref b)] [.null, .int (Int32.ofNat A.slots.size), .int 0, .ref b, .ref a])) := c1.trans (by
    refine XS.aloadN X0.here hexec rfl (hb hbytes d0) rfl rfl ?_
    refine XS.aloadN X0.here hexec rfl (hb hbytes d1) rfl rfl ?_
    refine iconstV X0.here hexec rfl 0 (hb hbytes d2) (by decide) ?_
    refine XS.aloadN X0.here hexec rfl (hb hbytes d3) rfl rfl ?_
    refine X0.alen hexec (hA.1.mv X0.warmed.alike hh0) rfl rfl (hb hbytes d4) ?_
    refine XS.aconstNull X0.here hexec rfl (hb hbytes d5) ?_
    exact Steps.refl _)
  obtain ⟨v3, T3, X3, E3, g3⟩ := X0.callN hexec (New4.law l a D fV fC b A z 0 A.slots.size) rfl hown (wks W (initW "java/lang/String" 27 New4.yN)) (W New4.tab (by simp only [site, List.mem_cons, List.mem_append, true_or, or_true])) (W := 0) (Nat.le_of_ble_eq_true rfl) (Nat.le_of_ble_eq_true rfl) (Nat.le_refl _) (by show 0 + A.slots.size ≤ A.slots.size; omega) (g := (mkF m 6 #[.val (.ref a), .val (.ref b)] [.null, .int (Int32.ofNat A.slots.size), .int (Int32.ofNat 0), .ref b, .ref a])) rfl (by rw [hml]; rfl) c2 (argsL := [.ref b, .int (Int32.ofNat 0), .int (Int32.ofNat A.slots.size), .null]) (rest := []) rfl rfl (by show 2 * 0 + 0 ≤ _; decide) (hb hbytes d6) (⟨rfl, hB.mv X0.warmed.alike hh0, f1.al X0.warmed.alike, f2.al X0.warmed.alike, hA.mv X0.warmed.alike hh0, s1.there X0.warmed.alike hh0, hz, l0, by omega, l2, fun i hi => by rw [Nat.zero_add]; exact hp i hi⟩)
  have e0 := Got.mv _ s₁ s _ _ hh0.symm (Vm.Alike.refl _) rfl E3
  obtain rfl := e0.1
  have c4 : Steps p.tables e below (s₁.setTop (entryFrame m #[.ref a, .ref b] 2)) (T3.setTop (mkF m 9 #[.val (.ref a), .val (.ref b)] [])) := g3
  exact ⟨T3, none, _, _, _, X3, by simp, rfl, by omega, (fun _ => rfl), e0, fun fs hl => c4.trans (X3.returnOut hexec hret (hb hbytes d9) hl)⟩
theorem pays {l : Launch} {R : Room} {p : Program} {e : Env} {below : List Frame} {s : State} {sargs : Array Value} {len W : Nat} (a : Addr) (D : Cell) (fV fC : Field) (b : Addr) (A : Cell) (z : Int32) (htab : tab.before sargs s = true) (hfr : 4 ≤ R.frames) (hlo : W + 65 ≤ R.locals) :
    Back l R p e below s sargs yN len W (fun A₁ a₁ => A₁.cells + 1 ≤ R.cells ∧ A₁.slots + A.slots.size ≤ R.slots ∧ P a D fV fC b A z a₁ A₁.U) (fun A₁ _ v₁ B₁ => E a D fV fC A v₁ A₁.U B₁.U ∧ B₁.locs = A₁.locs ++ [⟨a, fC.slot⟩, ⟨a, fV.slot⟩] ∧ B₁.cells = A₁.cells + 1 ∧ B₁.slots = A₁.slots + A.slots.size) :=
  (law l a D fV fC b A z).pays htab hfr (by omega)
end New1
/-- the byte, read back as charAt reads it, is the char -/
theorem lo8_mask {x : Int32} (h0 : ¬ x < 0) (h1 : ¬ 255 < x) : lo8 x &&& 255 = x := by
  have t : ∀ k : Fin 256, lo8 (Int32.ofNat k.val) &&& 255 = Int32.ofNat k.val := by decide +kernel
  rw [Int32.lt_iff_toInt_lt] at h0 h1
  have e0 : (0 : Int32).toInt = 0 := rfl
  have e1 : (255 : Int32).toInt = 255 := rfl
  obtain ⟨k, hk⟩ : ∃ k : Nat, x.toInt = k := ⟨x.toInt.toNat, by omega⟩
  have hx : x = Int32.ofNat k := Int32.toInt_inj.mp (by rw [hk, Int32.toInt_ofNat_small (by omega)])
  rw [hx]
  exact t ⟨k, by omega⟩
end StrChars
namespace StrChars.Road
open Jvm Sem ClassFile Op Lib Jvm.Stand Jvm.Free Jvm.Free.XT
open Jvm.Lib.Cold (StaticIs)
abbrev ST : String := "java/lang/String"
/-- every table word that New1's law asks, flat -/
abbrev words : List Jvm.Cond := [.code New1.yN New1.yB 2 none, .initialized ST, .methodLink ST 27 New4.yN, .instanceMethod New4.yN,
  .code New4.yN New4.yB 6 none, .fieldLink ST 38 ST "COMPACT_STRINGS" "Z", .laysFinal ST ST "value" "[B", .fieldLink ST 9 ST "value" "[B", .laysFinal ST ST "coder" "B", .fieldLink ST 15 ST "coder" "B",
  .methodLink ST 1 Lib.objectInit, .instanceMethod Lib.objectInit, .code Lib.objectInit ⟨#[0xb1]⟩ 1 none, .methodLink ST 177 Cmp3.yN, .static Cmp3.yN, .methodLink ST 47 CodL.yN, .static CodL.yN,
  .code Cmp3.yN Cmp3.yB 6 (some (.array .byte)), .initialized U16, .arrayClass .byte, .methodLink U16 115 Cmp5.yN, .static Cmp5.yN, .code Cmp5.yN Cmp5.yB 7 (some .int), .code CodL.yN CodL.yB 2 (some .byte)]
theorem tab_of {a : Array Value} {s : State} (h : ∀ w ∈ words, w.before a s = true) : New1.tab.before a s = true := by
  have h5 : Cmp5.tab.before a s = true := unparts (wk h (.code Cmp5.yN Cmp5.yB 7 (some .int))) (wks h (.initialized Cmp5.yN.cls :: Cmp5.site))
  have hc : CodL.tab.before a s = true := unparts (wk h (.code CodL.yN CodL.yB 2 (some .byte))) (wks h (.initialized CodL.yN.cls :: CodL.site))
  have q5 : ∀ w ∈ Cmp5.tab :: words, w.before a s = true := fun w hw => (List.mem_cons.mp hw).elim (fun e => e ▸ h5) (h w)
  have h3 : Cmp3.tab.before a s = true := unparts (wk q5 (.code Cmp3.yN Cmp3.yB 6 (some (.array .byte)))) (wks q5 (.initialized Cmp3.yN.cls :: Cmp3.site))
  have q3 : ∀ w ∈ Cmp3.tab :: CodL.tab :: words, w.before a s = true := fun w hw => (List.mem_cons.mp hw).elim (fun e => e ▸ h3) fun hw => (List.mem_cons.mp hw).elim (fun e => e ▸ hc) (h w)
  have h4 : New4.tab.before a s = true := unparts (wk q3 (.code New4.yN New4.yB 6 none)) (wks q3 (.initialized New4.yN.cls :: New4.site))
  have q4 : ∀ w ∈ New4.tab :: words, w.before a s = true := fun w hw => (List.mem_cons.mp hw).elim (fun e => e ▸ h4) (h w)
  exact unparts (wk q4 (.code New1.yN New1.yB 2 none)) (wks q4 (.initialized New1.yN.cls :: New1.site))
/-- the words ride from the start Z to the walk's own state -/
theorem moved {Z s : State} {a0 args : Array Value} (hZ : Z.Warmed39 s.vm) (hw : ∀ d ∈ words, d.before a0 Z = true) : ∀ d ∈ words, d.before args s = true := fun d hd => by
  have q := hw d hd
  have t : ∀ d ∈ words, d = .arrayClass .byte ∨ (d.onTables && d.keepsFace) = true := by decide +kernel
  rcases t d hd with rfl | t
  · exact RoadKit.mvA hZ q
  · exact RoadKit.mv hZ q t
/-- WHAT COMES BACK, over the tables of the start Z: h the heap at the call, h' behind it -/
def Q (Z : State) (x : Addr) (A : Cell) (h : Heap) (v : Option Value) (h' : Heap) (L : List Loc) : Prop := v = none ∧ (∀ y ∈ L, y.base = x) ∧ RoadKit.Keep h h' [x] ∧ h'.size = h.size + 1 ∧ RoadKit.Exa Z h' x ST ∧ RoadKit.Fld Z h' x ST "value" "[B" (.ref h.size) ∧ RoadKit.Fld Z h' x ST "coder" "B" (.int 0) ∧
  (∃ V : Cell, RoadKit.Arr Z h' h.size V .byte ∧ V.vm = .none ∧ Z.vm.findClass "[B" = some V.cls ∧ V.slots.size = A.slots.size ∧ ∀ j, j < A.slots.size → V.slots[j]? = some (.int (lo8 (cv A j)))) ∧
  ∀ (O n d : String) (w : Value), RoadKit.Fld Z h x O n d w → RoadKit.slotOf Z O n d ≠ RoadKit.slotOf Z ST "value" "[B" → RoadKit.slotOf Z O n d ≠ RoadKit.slotOf Z ST "coder" "B" → RoadKit.Fld Z h' x O n d w
/-- **new String(chars) AT A CALL, IN THE ROAD'S FORM**: for specialBack behind newO: x the fresh String, b the char[] with the cell A -/
theorem back {p : Program} {l : Launch} {e : Env} {R : Room} {s : State} {args : Array Value} {below : List Frame} {len W : Nat} {Z : State} {a0 : Array Value} {h : Heap} (hZ : Z.Warmed39 s.vm) (hw : ∀ d ∈ words, d.before a0 Z = true) {kI : Nat} (wi : (Jvm.Cond.instantiable ST kI).before a0 Z = true)
    {x b : Addr} {A : Cell} {z : Int32} {v0 c0 : Value} (E : RoadKit.Exa Z h x ST) (V : RoadKit.Fld Z h x ST "value" "[B" v0) (C : RoadKit.Fld Z h x ST "coder" "B" c0) (K : RoadKit.Arr Z h b A .char) (hty : Typed .char A) (S : RoadKit.Sta Z h ST "COMPACT_STRINGS" "Z" (.int z)) (hz : ¬ z = 0)
    (l0 : 0 < A.slots.size) (l2 : A.slots.size ≤ 536870912) (hp : ∀ i, i < A.slots.size → ¬ 255 < cv A i) (hfr : 4 ≤ R.frames) (hlo : W + 65 ≤ R.locals) :
    Back l R p e below s args New1.yN len W (fun P a => a = #[.ref x, .ref b] ∧ P.U.heap = h ∧ P.cells + 1 ≤ R.cells ∧ P.slots + A.slots.size ≤ R.slots)
      (fun P _ v B => ∃ L, Q Z x A h v B.U.heap L ∧ B.locs = P.locs ++ L ∧ B.cells = P.cells + 1 ∧ B.slots = P.slots + A.slots.size) := by
  intro m meth c P g ig mk a X hg hsize hdg hW hn hp'
  obtain ⟨rfl, rfl, r1, r2⟩ := hp'
  have al : Z.vm.Alike P.U.vm := hZ.alike.trans X.warmed.alike
  obtain ⟨D, cfV, kV, iV, fV, hD, gV, stV, knV, obV, asV, slV⟩ := id V
  obtain ⟨D', cfC, kC, iC, fC, hD', gC, stC, -, -, asC, slC⟩ := id C
  cases hD.symm.trans hD'
  obtain ⟨D2, kD, e1, e2, e3, e4, e5⟩ := id E
  cases hD.symm.trans e1
  obtain ⟨c2, k2, i1, i2, i3, -⟩ := Cond.instantiable_spec wi
  cases e2.symm.trans i1
  cases e3.symm.trans i2
  obtain ⟨kU, u1, u2⟩ := al.2.2 _ _ e3
  have hB : Blank ST x D P.U := ⟨hD, ⟨knV, fun q hq => by rw [hq] at obV; cases obV⟩, by rw [al.findClass]; exact e2, kU, u1, by rw [u2]; exact i3, by rw [u2]; exact e5 i3⟩
  have F1 : Found ST "value" "[B" fV P.U := ⟨SBG.found_only al ⟨cfV, kV, iV, gV⟩, stV⟩
  have F2 : Found ST "coder" "B" fC P.U := ⟨SBG.found_only al ⟨cfC, kC, iC, gC⟩, stC⟩
  have hA : Ch b A P.U := ⟨⟨K.1, State.isArrayOf_alike al K.2.1, K.2.2, by omega⟩, hty⟩
  have hS : StaticIs P.U ST "COMPACT_STRINGS" "Z" (.int z) := by
    obtain ⟨cfS, iS, kS, fS, st, cS, t1, t2, t3, t4, t5, t6, t7⟩ := S
    exact StaticIs.there (s := { Z with heap := P.U.heap }) ⟨cfS, iS, kS, fS, st, cS, t1, t2, t3, t4, t5, (fun q => by rw [q] at t6; cases t6), t7⟩ al rfl
  obtain ⟨v, B, X', ⟨⟨hv, E', V', q1, q2, q3, q4, q5, q6, q7, q8, q9, q10, q11⟩, hl, hc, hs⟩, st⟩ := New1.pays x D fV fC b A z (tab_of (moved hZ hw)) hfr hlo m meth c P g ig mk _ X hg hsize hdg hW hn ⟨r1, r2, rfl, hB, F1, F2, hA, hS, hz, l0, l2, hp⟩
  have al' : Z.vm.Alike B.U.vm := hZ.alike.trans X'.warmed.alike
  have hsz : E'.slots.size = D.slots.size := by
    obtain ⟨-, -, -, kB, w1, w2, w3⟩ := q1
    obtain ⟨kB', y1, y2⟩ := al'.2.2 _ _ e3
    rw [q2.2.1] at w1
    cases w1.symm.trans y1
    rw [w3, e5 i3, y2]
  refine ⟨v, B, X', ⟨_, ⟨hv, ?_, ⟨by omega, fun y cy hy hn' => q10 y cy (by simpa using hn') hy, fun y cy hy => ?_⟩, q11, ⟨E', _, q1.1, by rw [q2.2.1]; exact e2, by rw [q2.2.1]; exact e3, by rw [q2.1]; exact obV, fun _ => by rw [hsz]; exact e5 i3⟩,
    ⟨E', cfV, kV, iV, fV, q1.1, gV, stV, by rw [q2.1]; exact knV, by rw [q2.1]; exact obV, by rw [q2.2.1]; exact asV, q3⟩, ⟨E', cfC, kC, iC, fC, q1.1, gC, stC, by rw [q2.1]; exact knV, by rw [q2.1]; exact obV, by rw [q2.2.1]; exact asC, q4⟩,
    ⟨V', ⟨q5.1, State.isArrayOf_alike al'.symm q5.2.1, q5.2.2.1⟩, q6, by rw [← al'.findClass]; exact q7, q8, fun j hj => by have := q9 j hj; rwa [Nat.zero_add] at this⟩, fun O n d w F n1 n2 => ?_⟩, hl, hc, hs⟩, st⟩
  · intro y hy
    simp only [List.mem_cons, List.not_mem_nil, or_false] at hy
    rcases hy with rfl | rfl <;> rfl
  · by_cases q : y = x
    · subst q
      cases hD.symm.trans hy
      exact ⟨E', q1.1, q2.2.1, q2.1, hsz⟩
    · exact ⟨cy, q10 y cy q hy, rfl, rfl, rfl⟩
  · obtain ⟨D3, cf, k, i, f, g1, g2, g3, g4, g5, g6, g7⟩ := F
    cases hD.symm.trans g1
    simp only [RoadKit.slotOf, g2, gV, gC, Option.map_some, Option.getD_some] at n1 n2
    exact ⟨E', cf, k, i, f, q1.1, g2, g3, by rw [q2.1]; exact g4, by rw [q2.1]; exact g5, by rw [q2.2.1]; exact g6, by rw [q2.2.2 f.slot (by simp [n1, n2])]; exact g7⟩
end StrChars.Road
namespace StrChars.Road
open Jvm Sem ClassFile Op Lib Jvm.Stand Jvm.Free Jvm.Free.XT
/-- WHAT COMES BACK, the byte[] as a list of values -/
def QA (Z : State) (x : Addr) (zn : Int32) (cs : List Int32) (h : Heap) (v : Option Value) (h' : Heap) (L : List Loc) : Prop := v = none ∧ (∀ y ∈ L, y.base = x) ∧ RoadKit.Keep h h' [x] ∧ h'.size = h.size + 1 ∧ RoadKit.Exa Z h' x ST ∧ RoadKit.Fld Z h' x ST "value" "[B" (.ref h.size) ∧ RoadKit.Fld Z h' x ST "coder" "B" (.int 0) ∧
  (∃ kb, Z.vm.findClass "[B" = some kb ∧ RoadKit.Arv Z h' h.size kb .byte zn (cs.map fun c => .int (lo8 c)) (.int 0)) ∧
  ∀ (O n d : String) (w : Value), RoadKit.Fld Z h x O n d w → RoadKit.slotOf Z O n d ≠ RoadKit.slotOf Z ST "value" "[B" → RoadKit.slotOf Z O n d ≠ RoadKit.slotOf Z ST "coder" "B" → RoadKit.Fld Z h' x O n d w
/-- **new String(chars) AT A CALL, THE ARRAYS AS LISTS**: the char[] at b holds cs, not empty, no char above 255 -/
theorem backArv {p : Program} {l : Launch} {e : Env} {R : Room} {s : State} {args : Array Value} {below : List Frame} {len W : Nat} {Z : State} {a0 : Array Value} {h : Heap} (hZ : Z.Warmed39 s.vm) (hw : ∀ d ∈ words, d.before a0 Z = true) {kI : Nat} (wi : (Jvm.Cond.instantiable ST kI).before a0 Z = true)
    {x b : Addr} {k : ClassId} {zn z : Int32} {cs : List Int32} {dv v0 c0 : Value} (E : RoadKit.Exa Z h x ST) (V : RoadKit.Fld Z h x ST "value" "[B" v0) (C : RoadKit.Fld Z h x ST "coder" "B" c0) (K : RoadKit.Arv Z h b k .char zn (cs.map Value.int) dv) (S : RoadKit.Sta Z h ST "COMPACT_STRINGS" "Z" (.int z)) (hz : ¬ z = 0)
    (hlen : zn.toNatClampNeg = cs.length) (h0 : 0 < cs.length) (hbig : cs.length ≤ 536870912) (hall : ∀ c ∈ cs, ¬ 255 < c) (hfr : 4 ≤ R.frames) (hlo : W + 65 ≤ R.locals) :
    Back l R p e below s args New1.yN len W (fun P a => a = #[.ref x, .ref b] ∧ P.U.heap = h ∧ P.cells + 1 ≤ R.cells ∧ P.slots + cs.length ≤ R.slots)
      (fun P _ v B => ∃ L, QA Z x zn cs h v B.U.heap L ∧ B.locs = P.locs ++ L ∧ B.cells = P.cells + 1 ∧ B.slots = P.slots + cs.length) := by
  obtain ⟨A, K1, K2, K3, K4, K5, K6⟩ := K
  have e : A.slots.size = cs.length := K3.trans hlen
  have hat : ∀ (i : Nat) (hi : i < cs.length), A.slots[i]? = some (.int cs[i]) := fun i hi => by rw [K5 i (by omega)]; simp [List.getD_eq_getElem?_getD, hi]
  have hcv : ∀ (i : Nat) (hi : i < cs.length), cv A i = cs[i] := fun i hi => by unfold cv; rw [hat i hi]
  have hty : Typed .char A := fun i v hv => by
    have hi : i < A.slots.size := (Array.getElem?_eq_some_iff.mp hv).1
    have q := K5 i hi
    rw [hv] at q
    rw [Option.some.inj q]
    exact K6 i hi
  refine Back.mono (back hZ hw wi E V C K1 hty S hz (by omega) (by omega) (fun i hi => by rw [hcv i (by omega)]; exact hall _ (List.getElem_mem _)) hfr hlo) (fun P a hp => ⟨hp.1, hp.2.1, hp.2.2.1, by rw [e]; exact hp.2.2.2⟩) (fun P a v B hp hq => ?_)
  obtain ⟨L, ⟨q1, q2, q3, q4, q5, q6, q7, ⟨V', v1, v2, v3, v4, v5⟩, q9⟩, hl, hc, hs⟩ := hq
  refine ⟨L, ⟨q1, q2, q3, q4, q5, q6, q7, ⟨V'.cls, v3, V', v1, rfl, by rw [v4, e, hlen], K4, fun i hi => ?_, fun i hi => ?_⟩, q9⟩, hl, hc, by rw [hs, e]⟩
  · have hi' : i < cs.length := by omega
    rw [v5 i (by omega), hcv i hi']; simp [List.getD_eq_getElem?_getD, hi']
  · have hi' : i < cs.length := by omega
    simp only [List.getD_eq_getElem?_getD, List.getElem?_map, List.getElem?_eq_getElem hi', Option.map_some, Option.getD_some]
    exact fits_lo8 _
end StrChars.Road
namespace StrChars.Road
open Jvm Sem ClassFile Op Lib Jvm.Stand Jvm.Free Jvm.Free.XT
/-- WHAT COMES BACK, in the writer's own shape -/
def QV (Z : State) (x : Addr) (N : Int32) (bs : List Int32) (h : Heap) (n0 : Nat) (v : Option Value) (h' : Heap) (L : List Loc) : Prop := v = none ∧ RoadKit.Fr n0 L ∧ RoadKit.Keep h h' [x] ∧ RoadKit.Exa Z h' x ST ∧ RoadKit.Fld Z h' x ST "coder" "B" (.int 0) ∧
  ∃ (t : Addr) (kb : ClassId), n0 ≤ t ∧ h.size ≤ t ∧ ¬ t = x ∧ RoadKit.Fld Z h' x ST "value" "[B" (.ref t) ∧ RoadKit.Arv Z h' t kb .byte N (bs.map Value.int) (.int 0)
/-- **new String(chars) AT A CALL, FOR THE WRITER**: a char[] of n known ints, each 0 to 255 -/
theorem backV {p : Program} {l : Launch} {e : Env} {R : Room} {s : State} {args : Array Value} {below : List Frame} {len W : Nat} {Z : State} {a0 : Array Value} {h : Heap} (hZ : Z.Warmed39 s.vm) (hw : ∀ d ∈ words, d.before a0 Z = true) {kI : Nat} (wi : (Jvm.Cond.instantiable ST kI).before a0 Z = true)
    {x b : Addr} {kC : ClassId} {cs bs : List Int32} {d v0 c0 : Value} {z N : Int32} {n n0 : Nat} (hx0 : n0 ≤ x) (hh0 : n0 ≤ h.size) (E : RoadKit.Exa Z h x ST) (V : RoadKit.Fld Z h x ST "value" "[B" v0) (C : RoadKit.Fld Z h x ST "coder" "B" c0) (K : RoadKit.Arv Z h b kC .char N (cs.map Value.int) d) (S : RoadKit.Sta Z h ST "COMPACT_STRINGS" "Z" (.int z)) (hz : ¬ z = 0)
    (hn : cs.length = n) (hN : N = Int32.ofNat n) (l0 : 0 < n) (l2 : n ≤ 4000) (hp : ∀ c ∈ cs, ¬ c < 0 ∧ ¬ (255 : Int32) < c) (hb : bs = cs.map (fun c => c.toInt8.toInt32)) (hfr : 4 ≤ R.frames) (hlo : W + 65 ≤ R.locals) :
    Back l R p e below s args (⟨"java/lang/String", "<init>", "([C)V"⟩ : MethodName) len W (fun P a => a = #[.ref x, .ref b] ∧ P.U.heap = h ∧ P.cells + 1 ≤ R.cells ∧ P.slots + n ≤ R.slots)
      (fun P _ v B => ∃ L, QV Z x N bs h n0 v B.U.heap L ∧ B.locs = P.locs ++ L ∧ B.cells = P.cells + 1 ∧ B.slots = P.slots + n) := by
  subst hn hN hb
  refine Back.mono (backArv hZ hw wi E V C K S hz (n32 (by omega)) l0 (by omega) (fun c hc => (hp c hc).2) hfr hlo) (fun P a hp => hp) (fun P a v B hp hq => ?_)
  obtain ⟨L, ⟨q1, q2, q3, q4, q5, q6, q7, ⟨kb, v1, v2⟩, q9⟩, hl, hc, hs⟩ := hq
  exact ⟨L, ⟨q1, fun y hy => by rw [q2 y hy]; exact hx0, q3, q5, q7, h.size, kb, hh0, Nat.le_refl _, Nat.ne_of_gt E.lt, q6, by rw [List.map_map]; exact v2⟩, hl, hc, hs⟩
end StrChars.Road
namespace StrChars
open Jvm Sem ClassFile Op Lib Jvm.Stand Jvm.Free.XT Jvm.Free.ALB Jvm.Free.JM Jvm.Free
open Jvm.Lib.Cold (StaticIs)
def hi8 (x : Int32) : Int32 := lo8 (x >>> ((8 : Int32) &&& 31))
/-- what StringUTF16.getChar makes of two bytes -/
def pairCh (u v : Int32) : Int32 := (((u &&& 255) <<< ((0 : Int32) &&& 31)) ||| ((v &&& 255) <<< ((8 : Int32) &&& 31))).toUInt32.toUInt16.toUInt32.toInt32
theorem lo8_and (x : Int32) : (lo8 x &&& 255).toBitVec.toNat = x.toBitVec.toNat % 256 := by
  have h : (lo8 x).toBitVec = (x.toBitVec.signExtend 8).signExtend 32 := by rw [lo8, Int8.toBitVec_toInt32, Int32.toBitVec_toInt8]
  rw [Int32.toBitVec_and, BitVec.toNat_and, h]
  have e : ((x.toBitVec.signExtend 8).signExtend 32).toNat % 256 = x.toBitVec.toNat % 256 := by
    rw [BitVec.toNat_signExtend]
    have hlt := x.toBitVec.isLt
    simp only [BitVec.toNat_setWidth, BitVec.toNat_signExtend]
    split <;> split <;> omega
  rw [← e]
  exact Nat.and_two_pow_sub_one_eq_mod _ 8
theorem pair_says {c : Int32} (h0 : ¬ c < 0) (h1 : ¬ 65535 < c) : pairCh (lo8 c) (hi8 c) = c := by
  rw [Int32.lt_iff_toInt_lt] at h0 h1
  have e0 : (0 : Int32).toInt = 0 := rfl
  have e1 : (65535 : Int32).toInt = 65535 := rfl
  have hc : c.toInt = c.toBitVec.toNat := by
    have := c.toBitVec.isLt
    have e : c.toInt = c.toBitVec.toInt := rfl
    rw [e] at h0 h1
    rw [e]
    rw [BitVec.toInt_eq_toNat_cond] at h0 h1 ⊢
    split at h0 <;> split <;> omega
  have hn : c.toBitVec.toNat < 65536 := by omega
  have a1 := lo8_and c
  have a2 : (hi8 c &&& 255).toBitVec.toNat = c.toBitVec.toNat / 256 := by
    rw [hi8, lo8_and]
    have e : ((8 : Int32) &&& 31) = 8 := by decide
    rw [e, Int32.toBitVec_shiftRight]
    have e2 : ((8 : Int32).toBitVec.smod 32) = 8#32 := by decide
    rw [e2, BitVec.sshiftRight_eq', BitVec.toNat_sshiftRight_of_msb_false (by rw [BitVec.msb_eq_false_iff_two_mul_lt]; omega)]
    show c.toBitVec.toNat >>> 8 % 256 = _
    rw [Nat.shiftRight_eq_div_pow]
    omega
  unfold pairCh
  apply Int32.toBitVec_inj.mp
  apply BitVec.eq_of_toNat_eq
  have f0 : ((0 : Int32) &&& 31) = 0 := by decide
  have f8 : ((8 : Int32) &&& 31) = 8 := by decide
  rw [f0, f8]
  have g : (((lo8 c &&& 255) <<< (0 : Int32)) ||| ((hi8 c &&& 255) <<< (8 : Int32))).toBitVec.toNat = c.toBitVec.toNat := by
    rw [Int32.toBitVec_or, Int32.toBitVec_shiftLeft, Int32.toBitVec_shiftLeft]
    have s0 : ((0 : Int32).toBitVec.smod 32) = 0#32 := by decide
    have s8 : ((8 : Int32).toBitVec.smod 32) = 8#32 := by decide
    rw [s0, s8, BitVec.toNat_or]
    simp only [BitVec.shiftLeft_eq', BitVec.toNat_shiftLeft, a1, a2]
    show (c.toBitVec.toNat % 256) <<< 0 % 2 ^ 32 ||| (c.toBitVec.toNat / 256) <<< 8 % 2 ^ 32 = _
    rw [Nat.shiftLeft_zero, Nat.mod_eq_of_lt (show c.toBitVec.toNat % 256 < 2 ^ 32 by omega), Nat.mod_eq_of_lt (show (c.toBitVec.toNat / 256) <<< 8 < 2 ^ 32 by rw [Nat.shiftLeft_eq]; omega), Nat.or_comm, ← Nat.shiftLeft_add_eq_or_of_lt (by omega), Nat.shiftLeft_eq]
    omega
  show BitVec.toNat (((((lo8 c &&& 255) <<< (0 : Int32)) ||| ((hi8 c &&& 255) <<< (8 : Int32))).toBitVec.setWidth 16).setWidth 32) = _
  rw [BitVec.toNat_setWidth, BitVec.toNat_setWidth, g]
  omega
end StrChars
namespace StrChars
open Jvm Sem ClassFile Op Lib Jvm.Stand Jvm.Free.XT Jvm.Free.ALB Jvm.Free.JM Jvm.Free
open Jvm.Lib.Cold (StaticIs)
/-- the array's cell V codes the n chars f 0 .. f (n - 1) by the coder cd, as the JDK does: coder 1 just where some char is above 255 -/
def Cod (cd : Int32) (n : Nat) (f : Nat → Int32) (V : Cell) : Prop := (cd = 0 ∧ V.slots.size = n ∧ ∀ j, j < n → V.slots[j]? = some (.int (lo8 (f j))) ∧ ¬ 255 < f j) ∨ (cd = 1 ∧ V.slots.size = 2 * n ∧ (∀ j, j < n → V.slots[2 * j]? = some (.int (lo8 (f j))) ∧ V.slots[2 * j + 1]? = some (.int (hi8 (f j)))) ∧ ∃ j, j < n ∧ 255 < f j)
/-- **x is a String of the n chars f 0 .. f (n - 1)**, Latin-1 or UTF-16; its array at t has the cell V -/
def Txt (x t : Addr) (V : Cell) (cd : Int32) (n : Nat) (f : Nat → Int32) (U : State) : Prop := Exact "java/lang/String" x U ∧ Has x "java/lang/String" "value" "[B" (.ref t) U ∧ Has x "java/lang/String" "coder" "B" (.int cd) U ∧ XT.Arr .byte t V U ∧ Cod cd n f V ∧ ∀ j, j < n → ¬ f j < 0 ∧ ¬ 65535 < f j
theorem Txt.mv {x t : Addr} {V : Cell} {cd : Int32} {n : Nat} {f : Nat → Int32} {U U' : State} (h : Txt x t V cd n f U) (hal : U.vm.Alike U'.vm) (hh : U'.heap = U.heap) : Txt x t V cd n f U' := ⟨h.1.mv hal hh, h.2.1.mv hal hh, h.2.2.1.mv hal hh, h.2.2.2.1.mv hal hh, h.2.2.2.2⟩
end StrChars
namespace StrChars.Road
open Jvm Sem ClassFile Op Lib Jvm.Stand Jvm.Free Jvm.Free.XT
open Jvm.Lib.Cold (StaticIs)
theorem consq {a : Array Value} {s : State} {c : Jvm.Cond} {L : List Jvm.Cond} (h0 : c.before a s = true) (h : ∀ w ∈ L, w.before a s = true) : ∀ w ∈ c :: L, w.before a s = true := fun w hw => (List.mem_cons.mp hw).elim (fun e => e ▸ h0) (h w)
/-- the bytes of the chars cs, low before high -/
def wideBytes : List Int32 → List Value
  | [] => []
  | c :: cs => .int (lo8 c) :: .int (hi8 c) :: wideBytes cs
theorem wide_lo (d : Value) : ∀ (cs : List Int32) (j : Nat), j < cs.length → (wideBytes cs).getD (2 * j) d = .int (lo8 (cs.getD j 0))
  | [], j, h => absurd h (Nat.not_lt_zero j)
  | c :: cs, 0, _ => rfl
  | c :: cs, j + 1, h => by
    have q := wide_lo d cs j (by simpa using h)
    rw [show 2 * (j + 1) = 2 * j + 1 + 1 from by omega]
    simpa [wideBytes] using q
theorem wide_hi (d : Value) : ∀ (cs : List Int32) (j : Nat), j < cs.length → (wideBytes cs).getD (2 * j + 1) d = .int (hi8 (cs.getD j 0))
  | [], j, h => absurd h (Nat.not_lt_zero j)
  | c :: cs, 0, _ => rfl
  | c :: cs, j + 1, h => by
    have q := wide_hi d cs j (by simpa using h)
    rw [show 2 * (j + 1) + 1 = 2 * j + 1 + 1 + 1 from by omega]
    simpa [wideBytes] using q
theorem low_at (d : Value) (cs : List Int32) (j : Nat) (h : j < cs.length) : (cs.map fun c => Value.int (lo8 c)).getD j d = .int (lo8 (cs.getD j 0)) := by
  simp [List.getD_eq_getElem?_getD, h]
/-- an array of N2 bytes vs codes the chars cs by the coder cd -/
def CodA (cs : List Int32) (cd N2 : Int32) (vs : List Value) : Prop := (cd = 0 ∧ N2 = Int32.ofNat cs.length ∧ vs = (cs.map fun c => Value.int (lo8 c)) ∧ ∀ c ∈ cs, ¬ 255 < c) ∨ (cd = 1 ∧ N2 = Int32.ofNat (2 * cs.length) ∧ vs = wideBytes cs ∧ ∃ c ∈ cs, 255 < c)
theorem CodA.cod {cs : List Int32} {cd N2 : Int32} {vs : List Value} {V : Cell} (h : CodA cs cd N2 vs) (hn : 2 * cs.length < 2 ^ 31) (hs : V.slots.size = N2.toNatClampNeg) (hv : RoadKit.Has V vs (.int 0)) : Cod cd cs.length (fun j => cs.getD j 0) V := by
  rcases h with ⟨rfl, rfl, rfl, h⟩ | ⟨rfl, rfl, rfl, c, hc, hw⟩
  · rw [n32 (by omega)] at hs
    exact Or.inl ⟨rfl, hs, fun j hj => ⟨by rw [hv j (by omega), low_at _ _ _ hj], by
      have e : cs.getD j 0 = cs[j] := by simp [List.getD_eq_getElem?_getD, hj]
      show ¬ 255 < cs.getD j 0
      rw [e]; exact h _ (List.getElem_mem _)⟩⟩
  · rw [n32 (by omega)] at hs
    obtain ⟨j, hj, rfl⟩ := List.getElem_of_mem hc
    exact Or.inr ⟨rfl, hs, fun j hj => ⟨by rw [hv _ (by omega), wide_lo _ _ _ hj], by rw [hv _ (by omega), wide_hi _ _ _ hj]⟩, j, hj, by
      have e : cs.getD j 0 = cs[j] := by simp [List.getD_eq_getElem?_getD, hj]
      show 255 < cs.getD j 0
      rw [e]; exact hw⟩
/-- an object of exactly java/lang/String, its two fields found: as the laws ask it -/
theorem strObj {Z U : State} {a0 : Array Value} {kI : Nat} (wi : (Jvm.Cond.instantiable ST kI).before a0 Z = true) (al : Z.vm.Alike U.vm) {x : Addr} {v0 c0 : Value} (E : RoadKit.Exa Z U.heap x ST) (V : RoadKit.Fld Z U.heap x ST "value" "[B" v0) (C : RoadKit.Fld Z U.heap x ST "coder" "B" c0) :
    ∃ (D : Cell) (fV fC : Field), Blank ST x D U ∧ Found ST "value" "[B" fV U ∧ Found ST "coder" "B" fC U ∧ D.slots[fV.slot]? = some v0 ∧ D.slots[fC.slot]? = some c0 ∧ RoadKit.slotOf Z ST "value" "[B" = fV.slot ∧ RoadKit.slotOf Z ST "coder" "B" = fC.slot := by
  obtain ⟨D, cfV, kV, iV, fV, hD, gV, stV, knV, obV, asV, slV⟩ := V
  obtain ⟨D', cfC, kC, iC, fC, hD', gC, stC, -, -, asC, slC⟩ := C
  cases hD.symm.trans hD'
  obtain ⟨D2, kD, e1, e2, e3, e4, e5⟩ := E
  cases hD.symm.trans e1
  obtain ⟨c2, k2, i1, i2, i3, -⟩ := Cond.instantiable_spec wi
  cases e2.symm.trans i1
  cases e3.symm.trans i2
  obtain ⟨kU, u1, u2⟩ := al.2.2 _ _ e3
  exact ⟨D, fV, fC, ⟨hD, ⟨knV, fun q hq => by rw [hq] at obV; cases obV⟩, by rw [al.findClass]; exact e2, kU, u1, by rw [u2]; exact i3, by rw [u2]; exact e5 i3⟩, ⟨SBG.found_only al ⟨cfV, kV, iV, gV⟩, stV⟩, ⟨SBG.found_only al ⟨cfC, kC, iC, gC⟩, stC⟩, slV, slC, by simp [RoadKit.slotOf, gV], by simp [RoadKit.slotOf, gC]⟩
theorem sta_is {Z U : State} (al : Z.vm.Alike U.vm) {C n d : String} {v : Value} (S : RoadKit.Sta Z U.heap C n d v) : StaticIs U C n d v := by
  obtain ⟨cfS, iS, kS, fS, st, cS, t1, t2, t3, t4, t5, t6, t7⟩ := S
  exact StaticIs.there (s := { Z with heap := U.heap }) ⟨cfS, iS, kS, fS, st, cS, t1, t2, t3, t4, t5, (fun q => by rw [q] at t6; cases t6), t7⟩ al rfl
end StrChars.Road
namespace StrChars
open Jvm Sem ClassFile Op Lib Jvm.Stand Jvm.Free.XT Jvm.Free.ALB Jvm.Free.JM Jvm.Free
open Jvm.Lib.Cold (StaticIs)
/-- what place i of a byte[]'s cell holds -/
def yv (A : Cell) (i : Nat) : Int32 := match A.slots[i]? with | some (.int x) => x | _ => 0
theorem yv_get {a : Addr} {A : Cell} {U : State} (h : XT.Arr .byte a A U) (ht : Typed .byte A) {i : Nat} (hi : i < A.slots.size) : A.slots[i]? = some (.int (yv A i)) := by
  have e := Array.getElem?_eq_getElem hi
  have f := ht i _ e
  unfold yv; rw [e]
  generalize A.slots[i] = v at f
  cases v <;> simp [fits] at f ⊢
/-- the two arrays are equal, place for place -/
def EqC (A B : Cell) : Prop := A.slots.size = B.slots.size ∧ ∀ i, i < A.slots.size → yv A i = yv B i
/-- a boolean that says whether p -/
def Says01 (q : Prop) (r : Option Value) (s u : State) : Prop := ∃ v : Int32, r = some (.int v) ∧ u.heap = s.heap ∧ ((v = 1 ∧ q) ∨ (v = 0 ∧ ¬ q))
theorem Says01.mv {q : Prop} : ∀ r (U U' V V' : State), U'.heap = U.heap → V.vm.Alike V'.vm → V'.heap = V.heap → Says01 q r U V → Says01 q r U' V' :=
  fun r U U' V V' h1 _ h2 ⟨v, a, b, c⟩ => ⟨v, a, by rw [h1, h2]; exact b, c⟩
namespace LEq
def yN : MethodName := ⟨"java/lang/StringLatin1", "equals", "([B[B)Z"⟩
abbrev yB : ByteArray := jdk_43_method_13_code
theorem d0 : decode yB 0 = .ok (.aload_n 0, 1) := by decide +kernel
theorem d1 : decode yB 1 = .ok (.arraylength, 1) := by decide +kernel
theorem d2 : decode yB 2 = .ok (.aload_n 1, 1) := by decide +kernel
theorem d3 : decode yB 3 = .ok (.arraylength, 1) := by decide +kernel
theorem d4 : decode yB 4 = .ok (.if_icmp (.ne) 30, 3) := by decide +kernel
theorem d7 : decode yB 7 = .ok (.iconst 0, 1) := by decide +kernel
theorem d8 : decode yB 8 = .ok (.istore_n 2, 1) := by decide +kernel
theorem d9 : decode yB 9 = .ok (.iload_n 2, 1) := by decide +kernel
theorem d10 : decode yB 10 = .ok (.aload_n 0, 1) := by decide +kernel
theorem d11 : decode yB 11 = .ok (.arraylength, 1) := by decide +kernel
theorem d12 : decode yB 12 = .ok (.if_icmp (.ge) 20, 3) := by decide +kernel
theorem d15 : decode yB 15 = .ok (.aload_n 0, 1) := by decide +kernel
theorem d16 : decode yB 16 = .ok (.iload_n 2, 1) := by decide +kernel
theorem d17 : decode yB 17 = .ok (.baload, 1) := by decide +kernel
theorem d18 : decode yB 18 = .ok (.aload_n 1, 1) := by decide +kernel
theorem d19 : decode yB 19 = .ok (.iload_n 2, 1) := by decide +kernel
theorem d20 : decode yB 20 = .ok (.baload, 1) := by decide +kernel
theorem d21 : decode yB 21 = .ok (.if_icmp (.eq) 5, 3) := by decide +kernel
theorem d24 : decode yB 24 = .ok (.iconst 0, 1) := by decide +kernel
theorem d25 : decode yB 25 = .ok (.ireturn, 1) := by decide +kernel
theorem d26 : decode yB 26 = .ok (.iinc 2 1, 3) := by decide +kernel
theorem d29 : decode yB 29 = .ok (.goto (-20), 3) := by decide +kernel
theorem d32 : decode yB 32 = .ok (.iconst 1, 1) := by decide +kernel
theorem d33 : decode yB 33 = .ok (.ireturn, 1) := by decide +kernel
theorem d34 : decode yB 34 = .ok (.iconst 0, 1) := by decide +kernel
theorem d35 : decode yB 35 = .ok (.ireturn, 1) := by decide +kernel
def site : List Cond := []
def tab : Cond := tabOf yN yB 3 (some .boolean) site
def P (a : Addr) (A : Cell) (b : Addr) (B : Cell) (args : Array Value) (s : State) : Prop := args = #[.ref a, .ref b] ∧ XT.Arr .byte a A s ∧ Typed .byte A ∧ XT.Arr .byte b B s ∧ Typed .byte B
/-- whether two byte[] are equal, place for place -/
theorem law (l : Launch) (a : Addr) (A : Cell) (b : Addr) (B : Cell) : Law l yN 2 2 0 0 yB 3 (some .boolean) site (P a A b B) (Says01 (EqC A B)) [] 0 0 := by
  refine Law.of_walk (plainFor_of_name (by decide +kernel)) (by decide +kernel) (by decide +kernel) (by decide) (fun _ _ h => by rw [h.1]; rfl) (fun _ U U' hal hh h => ⟨h.1, h.2.1.mv hal hh, h.2.2.1, h.2.2.2.1.mv hal hh, h.2.2.2.2⟩) (fun r U U' V V' h1 hal h2 h => Says01.mv r U U' V V' h1 hal h2 h) ?_
  intro p e s m args below meth c s₁ X0 hexec hbytes hml hret hlk hnm hown hh0 W hP
  obtain ⟨rfl, hA, tA, hB, tB⟩ := hP
  have a31 := hA.2.2.2
  have b31 := hB.2.2.2
  have hA0 := hA.mv X0.warmed.alike hh0
  have hB0 := hB.mv X0.warmed.alike hh0
  have c1 : Steps p.tables e below (s₁.setTop (entryFrame m #[.ref a, .ref b] 3)) (s₁.setTop (mkF m 0 #[.val (.ref a), .val (.ref b), .unset] [])) := entry rfl
  have c2 : Steps p.tables e below (s₁.setTop (entryFrame m #[.ref a, .ref b] 3)) (s₁.setTop (mkF m 4 #[.val (.ref a), .val (.ref b), .unset] [.int (Int32.ofNat B.slots.size), .int (Int32.ofNat A.slots.size)])) := c1.trans (by
    refine XS.aloadN X0.here hexec rfl (hb hbytes d0) rfl rfl ?_
    refine X0.alen hexec hA0 rfl rfl (hb hbytes d1) ?_
    refine XS.aloadN X0.here hexec rfl (hb hbytes d2) rfl rfl ?_
    refine X0.alen hexec hB0 rfl rfl (hb hbytes d3) ?_
    exact Steps.refl _)
  by_cases hs : A.slots.size = B.slots.size
  · have c3 : Steps p.tables e below (s₁.setTop (entryFrame m #[.ref a, .ref b] 3)) (s₁.setTop (mkF m 9 #[.val (.ref a), .val (.ref b), .val (.int 0)] [])) := c2.trans (by
      refine XS.icmpNo X0.here hexec rfl (hb hbytes d4) rfl (ii_ne_f (by rw [hs])) ?_
      refine iconstV X0.here hexec rfl 0 (hb hbytes d7) (by decide) ?_
      refine XS.istoreN X0.here hexec rfl (hb hbytes d8) rfl rfl ?_
      exact Steps.refl _)
    have loop : ∀ (r i : Nat), i + r = A.slots.size → (∀ j, j < i → yv A j = yv B j) → Steps p.tables e below (s₁.setTop (entryFrame m #[.ref a, .ref b] 3)) (s₁.setTop (mkF m 9 #[.val (.ref a), .val (.ref b), .val (.int (Int32.ofNat i))] [])) → ∃ (pc : Nat) (Ls : Array Slot) (v : Int32), (pc = 25 ∨ pc = 33) ∧ ((v = 1 ∧ EqC A B) ∨ (v = 0 ∧ ¬ EqC A B)) ∧ Steps p.tables e below (s₁.setTop (entryFrame m #[.ref a, .ref b] 3)) (s₁.setTop (mkF m pc Ls [.int v])) := by
      intro r
      induction r with
      | zero =>
        intro i hi he cl
        exact ⟨33, _, 1, Or.inr rfl, Or.inl ⟨rfl, hs, fun j hj => he j (by omega)⟩, cl.trans (by
          refine XS.iloadN X0.here hexec rfl (hb hbytes d9) rfl ?_
          refine XS.aloadN X0.here hexec rfl (hb hbytes d10) rfl rfl ?_
          refine X0.alen hexec hA0 rfl rfl (hb hbytes d11) ?_
          refine XS.icmpYes X0.here hexec rfl (pc0 := 12) rfl (hb hbytes d12) rfl (ii_ge_t (nlt32 (by omega) (by omega))) (by decide) rfl ?_
          refine iconstV X0.here hexec rfl 1 (hb hbytes d32) (by decide) ?_
          exact Steps.refl _)⟩
      | succ r ih =>
        intro i hi he cl
        have c4 : Steps p.tables e below (s₁.setTop (entryFrame m #[.ref a, .ref b] 3)) (s₁.setTop (mkF m 21 #[.val (.ref a), .val (.ref b), .val (.int (Int32.ofNat i))] [.int (yv B i), .int (yv A i)])) := cl.trans (by
          refine XS.iloadN X0.here hexec rfl (hb hbytes d9) rfl ?_
          refine XS.aloadN X0.here hexec rfl (hb hbytes d10) rfl rfl ?_
          refine X0.alen hexec hA0 rfl rfl (hb hbytes d11) ?_
          refine XS.icmpNo X0.here hexec rfl (hb hbytes d12) rfl (ii_ge_f (lt32 (by omega) (by omega))) ?_
          refine XS.aloadN X0.here hexec rfl (hb hbytes d15) rfl rfl ?_
          refine XS.iloadN X0.here hexec rfl (hb hbytes d16) rfl ?_
          refine X0.aget hexec hA0 rfl (yv_get hA tA (i := i) (by omega)) rfl rfl (hb hbytes d17) ?_
          refine XS.aloadN X0.here hexec rfl (hb hbytes d18) rfl rfl ?_
          refine XS.iloadN X0.here hexec rfl (hb hbytes d19) rfl ?_
          refine X0.aget hexec hB0 rfl (yv_get hB tB (i := i) (by omega)) rfl rfl (hb hbytes d20) ?_
          exact Steps.refl _)
        by_cases hv : yv A i = yv B i
        · have c5 : Steps p.tables e below (s₁.setTop (entryFrame m #[.ref a, .ref b] 3)) (s₁.setTop (mkF m 9 #[.val (.ref a), .val (.ref b), .val (.int (Int32.ofNat i + 1))] [])) := c4.trans (by
            refine XS.icmpYes X0.here hexec rfl (pc0 := 21) rfl (hb hbytes d21) rfl (ii_eq_t hv) (by decide) rfl ?_
            refine iincV X0.here hexec rfl 1 (hb hbytes d26) (by decide) rfl rfl ?_
            refine XS.goto X0.here hexec rfl (pc0 := 29) rfl (hb hbytes d29) (by decide) rfl ?_
            exact Steps.refl _)
          rw [succ32] at c5
          exact ih (i + 1) (by omega) (fun j hj => by
            by_cases e : j = i
            · rw [e]; exact hv
            · exact he j (by omega)) c5
        · exact ⟨25, _, 0, Or.inl rfl, Or.inr ⟨rfl, fun q => hv (q.2 i (by omega))⟩, c4.trans (by
            refine XS.icmpNo X0.here hexec rfl (hb hbytes d21) rfl (ii_eq_f hv) ?_
            refine iconstV X0.here hexec rfl 0 (hb hbytes d24) (by decide) ?_
            exact Steps.refl _)⟩
    obtain ⟨pc, Ls, v, hpc, hv, cz⟩ := loop A.slots.size 0 (by omega) (fun j hj => absurd hj (Nat.not_lt_zero j)) c3
    have nv : narrow .boolean (.int v) = .int v := by rcases hv with ⟨rfl, -⟩ | ⟨rfl, -⟩ <;> rfl
    rcases hpc with rfl | rfl
    · exact ⟨s₁, some (.int v), _, _, _, X0, rfl, rfl, rfl, (fun h => by cases h), ⟨v, rfl, hh0, hv⟩, fun fs hl => cz.trans (X0.ireturnOut hexec hret nv (Or.inr (Or.inl rfl)) (hb hbytes d25) hl)⟩
    · exact ⟨s₁, some (.int v), _, _, _, X0, rfl, rfl, rfl, (fun h => by cases h), ⟨v, rfl, hh0, hv⟩, fun fs hl => cz.trans (X0.ireturnOut hexec hret nv (Or.inr (Or.inl rfl)) (hb hbytes d33) hl)⟩
  · have c3 : Steps p.tables e below (s₁.setTop (entryFrame m #[.ref a, .ref b] 3)) (s₁.setTop (mkF m 35 #[.val (.ref a), .val (.ref b), .unset] [.int 0])) := c2.trans (by
      refine XS.icmpYes X0.here hexec rfl (pc0 := 4) rfl (hb hbytes d4) rfl (ii_ne_t (ne32 a31 b31 hs)) (by decide) rfl ?_
      refine iconstV X0.here hexec rfl 0 (hb hbytes d34) (by decide) ?_
      exact Steps.refl _)
    exact ⟨s₁, some (.int 0), _, _, _, X0, rfl, rfl, rfl, (fun h => by cases h), ⟨0, rfl, hh0, Or.inr ⟨rfl, fun q => hs q.1⟩⟩, fun fs hl => c3.trans (X0.ireturnOut hexec hret rfl (Or.inr (Or.inl rfl)) (hb hbytes d35) hl)⟩
end LEq
theorem Cod.ty {cd : Int32} {n : Nat} {f : Nat → Int32} {V : Cell} (h : Cod cd n f V) : Typed .byte V := fun i v hv => by
  have hi : i < V.slots.size := (Array.getElem?_eq_some_iff.mp hv).1
  rcases h with ⟨-, k1, k2⟩ | ⟨-, k1, k2, -⟩
  · rw [(k2 i (by omega)).1] at hv; cases hv; exact fits_lo8 _
  · rcases Nat.mod_two_eq_zero_or_one i with e | e
    · obtain ⟨j, rfl⟩ : ∃ j, i = 2 * j := ⟨i / 2, by omega⟩
      rw [(k2 j (by omega)).1] at hv; cases hv; exact fits_lo8 _
    · obtain ⟨j, rfl⟩ : ∃ j, i = 2 * j + 1 := ⟨i / 2, by omega⟩
      rw [(k2 j (by omega)).2] at hv; cases hv; exact fits_lo8 _
/-- the same text -/
def SameT (n : Nat) (f : Nat → Int32) (k : Nat) (g : Nat → Int32) : Prop := n = k ∧ ∀ j, j < n → f j = g j
theorem lo8_inj {x y : Int32} (h0 : ¬ x < 0) (h1 : ¬ 255 < x) (k0 : ¬ y < 0) (k1 : ¬ 255 < y) (h : lo8 x = lo8 y) : x = y := by
  rw [← lo8_mask h0 h1, ← lo8_mask k0 k1, h]
/-- arrays coded by one coder are equal just where the texts are -/
theorem Cod.eqv {cd : Int32} {n k : Nat} {f g : Nat → Int32} {V V' : Cell} (h : Cod cd n f V) (h' : Cod cd k g V') (hf : ∀ j, j < n → ¬ f j < 0 ∧ ¬ 65535 < f j) (hg : ∀ j, j < k → ¬ g j < 0 ∧ ¬ 65535 < g j) : EqC V V' ↔ SameT n f k g := by
  have yvv : ∀ {W : Cell} {i : Nat} {x : Int32}, W.slots[i]? = some (.int x) → yv W i = x := fun q => by unfold yv; rw [q]
  rcases h with ⟨rfl, k1, k2⟩ | ⟨rfl, k1, k2, -⟩
  · rcases h' with ⟨-, m1, m2⟩ | ⟨e, -⟩
    · constructor
      · rintro ⟨e1, e2⟩
        refine ⟨by omega, fun j hj => ?_⟩
        have q := e2 j (by omega)
        rw [yvv (k2 j hj).1, yvv (m2 j (by omega)).1] at q
        exact lo8_inj (hf j hj).1 (k2 j hj).2 (hg j (by omega)).1 (m2 j (by omega)).2 q
      · rintro ⟨rfl, e2⟩
        refine ⟨by omega, fun j hj => ?_⟩
        rw [yvv (k2 j (by omega)).1, yvv (m2 j (by omega)).1, e2 j (by omega)]
    · exact absurd e (by decide)
  · rcases h' with ⟨e, -⟩ | ⟨-, m1, m2, -⟩
    · exact absurd e (by decide)
    · constructor
      · rintro ⟨e1, e2⟩
        refine ⟨by omega, fun j hj => ?_⟩
        have q1 := e2 (2 * j) (by omega)
        have q2 := e2 (2 * j + 1) (by omega)
        rw [yvv (k2 j hj).1, yvv (m2 j (by omega)).1] at q1
        rw [yvv (k2 j hj).2, yvv (m2 j (by omega)).2] at q2
        rw [← pair_says (hf j hj).1 (hf j hj).2, ← pair_says (hg j (by omega)).1 (hg j (by omega)).2, q1, q2]
      · rintro ⟨rfl, e2⟩
        refine ⟨by omega, fun i hi => ?_⟩
        rcases Nat.mod_two_eq_zero_or_one i with e | e
        · obtain ⟨j, rfl⟩ : ∃ j, i = 2 * j := ⟨i / 2, by omega⟩
          rw [yvv (k2 j (by omega)).1, yvv (m2 j (by omega)).1, e2 j (by omega)]
        · obtain ⟨j, rfl⟩ : ∃ j, i = 2 * j + 1 := ⟨i / 2, by omega⟩
          rw [yvv (k2 j (by omega)).2, yvv (m2 j (by omega)).2, e2 j (by omega)]
/-- two codings differ: so do the texts -/
theorem Cod.dif {cd cd' : Int32} {n k : Nat} {f g : Nat → Int32} {V V' : Cell} (h : Cod cd n f V) (h' : Cod cd' k g V') (hne : ¬ cd = cd') : ¬ SameT n f k g := by
  rintro ⟨rfl, e⟩
  rcases h with ⟨rfl, -, k2⟩ | ⟨rfl, -, -, j, hj, hw⟩
  · rcases h' with ⟨rfl, -⟩ | ⟨-, -, -, j, hj, hw⟩
    · exact hne rfl
    · exact (k2 j hj).2 (by rw [e j hj]; exact hw)
  · rcases h' with ⟨-, -, m2⟩ | ⟨rfl, -⟩
    · exact (m2 j hj).2 (by rw [← e j hj]; exact hw)
    · exact hne rfl
/-- an object of exactly C is an instance of C -/
theorem cinst {p : Program} {l : Launch} {e : Env} {R : Room} {s : State} {m : MethodId} {args : Array Value} {below : List Frame} {meth : Method} {c : Code} {T : State} {locs : List Loc} {cells slots : Nat} (X : Stand p l e R s m args below meth c T locs cells slots) (hexec : p.tables.exec = Jvm.exec) {own C : String} {index : Nat} (hown : s.vm.findClass own = some m.cls) (hlink : (Cond.classLink own index C).before args s = true) {a : Addr} (hE : Exact C a T)
    {g : JFrame} (hg : g.method = m) {rest : List Value} (hstack : g.stack = .ref a :: rest) (hdg : decode c.code g.pc = .ok (.instanceof index, 3)) :
    ∃ T', Stand p l e R s m args below meth c T' locs cells slots ∧ T'.heap = T.heap ∧ ∀ target, Steps p.tables e below (T'.setTop { g with pc := g.pc + 3, stack := .int 1 :: rest }) target → Steps p.tables e below (T.setTop g) target := by
  obtain ⟨cB, h1, D, h2, h3, h4⟩ := hE
  have h1' : s.vm.findClass C = some cB := by rw [← X.warmed.alike.findClass]; exact h1
  obtain ⟨vm', X', st⟩ := X.instanceofYes hexec hown hlink h2 h4 h1' (by rw [h3]; exact Jvm.Free.SB.assignable_self _ _) hg hstack hdg
  exact ⟨_, X', rfl, st⟩
theorem cself {p : Program} {l : Launch} {e : Env} {R : Room} {s : State} {m : MethodId} {args : Array Value} {below : List Frame} {meth : Method} {c : Code} {T : State} {locs : List Loc} {cells slots : Nat} (X : Stand p l e R s m args below meth c T locs cells slots) (hexec : p.tables.exec = Jvm.exec) {own C : String} {index : Nat} (hown : s.vm.findClass own = some m.cls) (hlink : (Cond.classLink own index C).before args s = true) {a : Addr} (hE : Exact C a T)
    {g : JFrame} (hg : g.method = m) {rest : List Value} (hstack : g.stack = .ref a :: rest) (hdg : decode c.code g.pc = .ok (.checkcast index, 3)) :
    ∃ T', Stand p l e R s m args below meth c T' locs cells slots ∧ T'.heap = T.heap ∧ ∀ target, Steps p.tables e below (T'.setTop { g with pc := g.pc + 3, stack := .ref a :: rest }) target → Steps p.tables e below (T.setTop g) target := by
  obtain ⟨cB, h1, D, h2, h3, h4⟩ := hE
  have h1' : s.vm.findClass C = some cB := by rw [← X.warmed.alike.findClass]; exact h1
  obtain ⟨vm', X', st⟩ := X.checkcastYes hexec hown hlink h2 h4 h1' (by rw [h3]; exact Jvm.Free.SB.assignable_self _ _) hg hstack hdg
  exact ⟨_, X', rfl, fun t h => st t (by rw [← hstack] at h; exact h)⟩
namespace SEq
def yN : MethodName := ⟨"java/lang/String", "equals", "(Ljava/lang/Object;)Z"⟩
abbrev yB : ByteArray := jdk_42_method_66_code
theorem d0 : decode yB 0 = .ok (.aload_n 0, 1) := by decide +kernel
theorem d1 : decode yB 1 = .ok (.aload_n 1, 1) := by decide +kernel
theorem d2 : decode yB 2 = .ok (.if_acmp (.ne) 5, 3) := by decide +kernel
theorem d5 : decode yB 5 = .ok (.iconst 1, 1) := by decide +kernel
theorem d6 : decode yB 6 = .ok (.ireturn, 1) := by decide +kernel
theorem d7 : decode yB 7 = .ok (.aload_n 1, 1) := by decide +kernel
theorem d8 : decode yB 8 = .ok (.instanceof 10, 3) := by decide +kernel
theorem d11 : decode yB 11 = .ok (.ifCond (.eq) 43, 3) := by decide +kernel
theorem d14 : decode yB 14 = .ok (.aload_n 1, 1) := by decide +kernel
theorem d15 : decode yB 15 = .ok (.checkcast 10, 3) := by decide +kernel
theorem d18 : decode yB 18 = .ok (.astore_n 2, 1) := by decide +kernel
theorem d19 : decode yB 19 = .ok (.getstatic 38, 3) := by decide +kernel
theorem d22 : decode yB 22 = .ok (.ifCond (.eq) 14, 3) := by decide +kernel
theorem d25 : decode yB 25 = .ok (.aload_n 0, 1) := by decide +kernel
theorem d26 : decode yB 26 = .ok (.getfield 15, 3) := by decide +kernel
theorem d29 : decode yB 29 = .ok (.aload_n 2, 1) := by decide +kernel
theorem d30 : decode yB 30 = .ok (.getfield 15, 3) := by decide +kernel
theorem d33 : decode yB 33 = .ok (.if_icmp (.ne) 21, 3) := by decide +kernel
theorem d36 : decode yB 36 = .ok (.aload_n 0, 1) := by decide +kernel
theorem d37 : decode yB 37 = .ok (.getfield 9, 3) := by decide +kernel
theorem d40 : decode yB 40 = .ok (.aload_n 2, 1) := by decide +kernel
theorem d41 : decode yB 41 = .ok (.getfield 9, 3) := by decide +kernel
theorem d44 : decode yB 44 = .ok (.invokestatic 541, 3) := by decide +kernel
theorem d47 : decode yB 47 = .ok (.ifCond (.eq) 7, 3) := by decide +kernel
theorem d50 : decode yB 50 = .ok (.iconst 1, 1) := by decide +kernel
theorem d51 : decode yB 51 = .ok (.goto 4, 3) := by decide +kernel
theorem d54 : decode yB 54 = .ok (.iconst 0, 1) := by decide +kernel
theorem d55 : decode yB 55 = .ok (.ireturn, 1) := by decide +kernel
def site : List Cond := [.classLink "java/lang/String" 10 "java/lang/String", .fieldLink "java/lang/String" 38 "java/lang/String" "COMPACT_STRINGS" "Z", .fieldLink "java/lang/String" 15 "java/lang/String" "coder" "B", .fieldLink "java/lang/String" 9 "java/lang/String" "value" "[B", LEq.tab] ++ staticW "java/lang/String" 541 LEq.yN
def tab : Cond := tabOf yN yB 3 (some .boolean) site
def P (x t : Addr) (V : Cell) (cd : Int32) (n : Nat) (f : Nat → Int32) (y t' : Addr) (V' : Cell) (cd' : Int32) (k : Nat) (g : Nat → Int32) (z : Int32) (args : Array Value) (s : State) : Prop := args = #[.ref x, .ref y] ∧ Txt x t V cd n f s ∧ Txt y t' V' cd' k g s ∧ StaticIs s "java/lang/String" "COMPACT_STRINGS" "Z" (.int z) ∧ ¬ z = 0
/-- equals(Object) of two Strings: whether the texts are the same -/
theorem law (l : Launch) (x t : Addr) (V : Cell) (cd : Int32) (n : Nat) (f : Nat → Int32) (y t' : Addr) (V' : Cell) (cd' : Int32) (k : Nat) (g : Nat → Int32) (z : Int32) : Law l yN 2 1 1 14 yB 3 (some .boolean) site (P x t V cd n f y t' V' cd' k g z) (Says01 (SameT n f k g)) [] 0 0 := by
  refine Law.of_walk (plainFor_of_name (by decide +kernel)) (by decide +kernel) (by decide +kernel) (by decide) (fun _ _ h => by rw [h.1]; rfl) (fun _ U U' hal hh h => ⟨h.1, h.2.1.mv hal hh, h.2.2.1.mv hal hh, h.2.2.2.1.there hal hh, h.2.2.2.2⟩) (fun r U U' V V' h1 hal h2 h => Says01.mv r U U' V V' h1 hal h2 h) ?_
  intro p e s m args below meth c s₁ X0 hexec hbytes hml hret hlk hnm hown hh0 W hP
  obtain ⟨rfl, hx, hy, s1, hz⟩ := hP
  have c1 : Steps p.tables e below (s₁.setTop (entryFrame m #[.ref x, .ref y] 3)) (s₁.setTop (mkF m 2 #[.val (.ref x), .val (.ref y), .unset] [.ref y, .ref x])) := Steps.trans (entry rfl) (by
    show Steps p.tables e below (s₁.setTop (mkF m 0 #[.val (.ref x), .val (.ref y), .unset] [])) _
    refine XS.aloadN X0.here hexec rfl (hb hbytes d0) rfl rfl ?_
    refine XS.aloadN X0.here hexec rfl (hb hbytes d1) rfl rfl ?_
    exact Steps.refl _)
  by_cases hxy : x = y
  · have c2 : Steps p.tables e below (s₁.setTop (entryFrame m #[.ref x, .ref y] 3)) (s₁.setTop (mkF m 6 #[.val (.ref x), .val (.ref y), .unset] [.int 1])) := c1.trans (by
      refine acmpNo X0.here hexec rfl (hb hbytes d2) rfl rfl rfl (by simp [acmp, hxy]) ?_
      refine iconstV X0.here hexec rfl 1 (hb hbytes d5) (by decide) ?_
      exact Steps.refl _)
    subst hxy
    have ec : cd = cd' := by
      obtain ⟨D, fd, a1, a2, a3⟩ := hx.2.2.1
      obtain ⟨D', fd', b1, b2, b3⟩ := hy.2.2.1
      cases a1.symm.trans b1
      obtain ⟨q1, q2, q3, q4⟩ := a2.1
      obtain ⟨r1, r2, r3, r4⟩ := b2.1
      cases q4.symm.trans r4
      cases a3.symm.trans b3; rfl
    have et : t = t' := by
      obtain ⟨D, fd, a1, a2, a3⟩ := hx.2.1
      obtain ⟨D', fd', b1, b2, b3⟩ := hy.2.1
      cases a1.symm.trans b1
      obtain ⟨q1, q2, q3, q4⟩ := a2.1
      obtain ⟨r1, r2, r3, r4⟩ := b2.1
      cases q4.symm.trans r4
      cases a3.symm.trans b3; rfl
    subst ec et
    have ev : V = V' := by cases hx.2.2.2.1.1.symm.trans hy.2.2.2.1.1; rfl
    subst ev
    have hs : SameT n f k g := (Cod.eqv hx.2.2.2.2.1 hy.2.2.2.2.1 hx.2.2.2.2.2 hy.2.2.2.2.2).mp ⟨rfl, fun _ _ => rfl⟩
    exact ⟨s₁, some (.int 1), _, _, _, X0, rfl, rfl, rfl, (fun h => by cases h), ⟨1, rfl, hh0, Or.inl ⟨rfl, hs⟩⟩, fun fs hl => c2.trans (X0.ireturnOut hexec hret rfl (Or.inr (Or.inl rfl)) (hb hbytes d6) hl)⟩
  · have c2 : Steps p.tables e below (s₁.setTop (entryFrame m #[.ref x, .ref y] 3)) (s₁.setTop (mkF m 8 #[.val (.ref x), .val (.ref y), .unset] [.ref y])) := c1.trans (by
      refine acmpYes X0.here hexec rfl (pc0 := 2) rfl (hb hbytes d2) rfl rfl rfl (by simp [acmp, hxy]) (by decide) rfl ?_
      refine XS.aloadN X0.here hexec rfl (hb hbytes d7) rfl rfl ?_
      exact Steps.refl _)
    obtain ⟨T3, X3, q3, st3⟩ := cinst X0 hexec hown (wk W (.classLink "java/lang/String" 10 "java/lang/String")) (hy.mv X0.warmed.alike hh0).1 (g := (mkF m 8 #[.val (.ref x), .val (.ref y), .unset] [.ref y])) rfl (rest := []) rfl (hb hbytes d8)
    have hh3 := q3.trans hh0
    have c4 : Steps p.tables e below (s₁.setTop (entryFrame m #[.ref x, .ref y] 3)) (T3.setTop (mkF m 15 #[.val (.ref x), .val (.ref y), .unset] [.ref y])) := (c2.trans (st3 _ (Steps.refl _))).trans (by
      refine XS.ifNo X3.here hexec rfl (hb hbytes d11) rfl (i0_eq_f (by decide)) ?_
      refine XS.aloadN X3.here hexec rfl (hb hbytes d14) rfl rfl ?_
      exact Steps.refl _)
    obtain ⟨T5, X5, q5, st5⟩ := cself X3 hexec hown (wk W (.classLink "java/lang/String" 10 "java/lang/String")) (hy.mv X3.warmed.alike hh3).1 (g := (mkF m 15 #[.val (.ref x), .val (.ref y), .unset] [.ref y])) rfl (rest := []) rfl (hb hbytes d15)
    have hh5 := q5.trans hh3
    have c6 : Steps p.tables e below (s₁.setTop (entryFrame m #[.ref x, .ref y] 3)) (T5.setTop (mkF m 19 #[.val (.ref x), .val (.ref y), .val (.ref y)] [])) := (c4.trans (st5 _ (Steps.refl _))).trans (by
      refine XS.astoreN X5.here hexec rfl (hb hbytes d18) rfl rfl rfl ?_
      exact Steps.refl _)
    obtain ⟨T7, X7, q7, st7⟩ := X5.sget hexec hown (wk W (.fieldLink "java/lang/String" 38 "java/lang/String" "COMPACT_STRINGS" "Z")) s1 (fun _ _ h => by rw [hh5]; exact h) (g := (mkF m 19 #[.val (.ref x), .val (.ref y), .val (.ref y)] [])) rfl (hb hbytes d19)
    have hh7 := q7.trans hh5
    have c8 : Steps p.tables e below (s₁.setTop (entryFrame m #[.ref x, .ref y] 3)) (T7.setTop (mkF m 26 #[.val (.ref x), .val (.ref y), .val (.ref y)] [.ref x])) := (c6.trans (st7 _ (Steps.refl _))).trans (by
      refine XS.ifNo X7.here hexec rfl (hb hbytes d22) rfl (i0_eq_f hz) ?_
      refine XS.aloadN X7.here hexec rfl (hb hbytes d25) rfl rfl ?_
      exact Steps.refl _)
    obtain ⟨T9, X9, q9, st9⟩ := X7.hget hexec hown (wk W (.fieldLink "java/lang/String" 15 "java/lang/String" "coder" "B")) (hx.mv X7.warmed.alike hh7).2.2.1 (g := (mkF m 26 #[.val (.ref x), .val (.ref y), .val (.ref y)] [.ref x])) rfl (rest := []) rfl (hb hbytes d26)
    have hh9 := q9.trans hh7
    have c10 : Steps p.tables e below (s₁.setTop (entryFrame m #[.ref x, .ref y] 3)) (T9.setTop (mkF m 30 #[.val (.ref x), .val (.ref y), .val (.ref y)] [.ref y, .int cd])) := (c8.trans (st9 _ (Steps.refl _))).trans (by
      refine XS.aloadN X9.here hexec rfl (hb hbytes d29) rfl rfl ?_
      exact Steps.refl _)
    obtain ⟨T11, X11, q11, st11⟩ := X9.hget hexec hown (wk W (.fieldLink "java/lang/String" 15 "java/lang/String" "coder" "B")) (hy.mv X9.warmed.alike hh9).2.2.1 (g := (mkF m 30 #[.val (.ref x), .val (.ref y), .val (.ref y)] [.ref y, .int cd])) rfl (rest := [.int cd]) rfl (hb hbytes d30)
    have hh11 := q11.trans hh9
    have c12 : Steps p.tables e below (s₁.setTop (entryFrame m #[.ref x, .ref y] 3)) (T11.setTop (mkF m 33 #[.val (.ref x), .val (.ref y), .val (.ref y)] [.int cd', .int cd])) := c10.trans (st11 _ (Steps.refl _))
    by_cases hcd : cd = cd'
    · subst hcd
      have c13 : Steps p.tables e below (s₁.setTop (entryFrame m #[.ref x, .ref y] 3)) (T11.setTop (mkF m 37 #[.val (.ref x), .val (.ref y), .val (.ref y)] [.ref x])) := c12.trans (by
        refine XS.icmpNo X11.here hexec rfl (hb hbytes d33) rfl (ii_ne_f rfl) ?_
        refine XS.aloadN X11.here hexec rfl (hb hbytes d36) rfl rfl ?_
        exact Steps.refl _)
      obtain ⟨T14, X14, q14, st14⟩ := X11.hget hexec hown (wk W (.fieldLink "java/lang/String" 9 "java/lang/String" "value" "[B")) (hx.mv X11.warmed.alike hh11).2.1 (g := (mkF m 37 #[.val (.ref x), .val (.ref y), .val (.ref y)] [.ref x])) rfl (rest := []) rfl (hb hbytes d37)
      have hh14 := q14.trans hh11
      have c15 : Steps p.tables e below (s₁.setTop (entryFrame m #[.ref x, .ref y] 3)) (T14.setTop (mkF m 41 #[.val (.ref x), .val (.ref y), .val (.ref y)] [.ref y, .ref t])) := (c13.trans (st14 _ (Steps.refl _))).trans (by
        refine XS.aloadN X14.here hexec rfl (hb hbytes d40) rfl rfl ?_
        exact Steps.refl _)
      obtain ⟨T16, X16, q16, st16⟩ := X14.hget hexec hown (wk W (.fieldLink "java/lang/String" 9 "java/lang/String" "value" "[B")) (hy.mv X14.warmed.alike hh14).2.1 (g := (mkF m 41 #[.val (.ref x), .val (.ref y), .val (.ref y)] [.ref y, .ref t])) rfl (rest := [.ref t]) rfl (hb hbytes d41)
      have hh16 := q16.trans hh14
      have c17 : Steps p.tables e below (s₁.setTop (entryFrame m #[.ref x, .ref y] 3)) (T16.setTop (mkF m 44 #[.val (.ref x), .val (.ref y), .val (.ref y)] [.ref t', .ref t])) := c15.trans (st16 _ (Steps.refl _))
      obtain ⟨v18, T18, X18, E18, g18⟩ := X16.callS hexec (LEq.law l t V t' V') hown (wks W (staticW "java/lang/String" 541 LEq.yN)) (wk W LEq.tab) (W := 0) (Nat.le_of_ble_eq_true rfl) (Nat.le_of_ble_eq_true rfl) (Nat.le_refl _) (Nat.le_refl _) (g := (mkF m 44 #[.val (.ref x), .val (.ref y), .val (.ref y)] [.ref t', .ref t])) rfl (by rw [hml]; rfl) c17 (argsL := [.ref t, .ref t']) (rest := []) rfl rfl (by show 2 * 0 + 0 ≤ _; decide) (hb hbytes d44) (⟨rfl, hx.2.2.2.1.mv X16.warmed.alike hh16, hx.2.2.2.2.1.ty, hy.2.2.2.1.mv X16.warmed.alike hh16, hy.2.2.2.2.1.ty⟩)
      obtain ⟨v, rfl, q18, hv⟩ := E18
      have iff := Cod.eqv hx.2.2.2.2.1 hy.2.2.2.2.1 hx.2.2.2.2.2 hy.2.2.2.2.2
      rcases hv with ⟨rfl, he⟩ | ⟨rfl, he⟩
      · have c19 : Steps p.tables e below (s₁.setTop (entryFrame m #[.ref x, .ref y] 3)) (T18.setTop (mkF m 55 #[.val (.ref x), .val (.ref y), .val (.ref y)] [.int 1])) := Steps.trans g18 (by
          refine XS.ifNo X18.here hexec rfl (hb hbytes d47) rfl (i0_eq_f (by decide)) ?_
          refine iconstV X18.here hexec rfl 1 (hb hbytes d50) (by decide) ?_
          refine XS.goto X18.here hexec rfl (pc0 := 51) rfl (hb hbytes d51) (by decide) rfl ?_
          exact Steps.refl _)
        exact ⟨T18, some (.int 1), _, _, _, X18, rfl, rfl, rfl, (fun h => by cases h), ⟨1, rfl, q18.trans hh16, Or.inl ⟨rfl, iff.mp he⟩⟩, fun fs hl => c19.trans (X18.ireturnOut hexec hret rfl (Or.inr (Or.inl rfl)) (hb hbytes d55) hl)⟩
      · have c19 : Steps p.tables e below (s₁.setTop (entryFrame m #[.ref x, .ref y] 3)) (T18.setTop (mkF m 55 #[.val (.ref x), .val (.ref y), .val (.ref y)] [.int 0])) := Steps.trans g18 (by
          refine XS.ifYes X18.here hexec rfl (pc0 := 47) rfl (hb hbytes d47) rfl (i0_eq_t rfl) (by decide) rfl ?_
          refine iconstV X18.here hexec rfl 0 (hb hbytes d54) (by decide) ?_
          exact Steps.refl _)
        exact ⟨T18, some (.int 0), _, _, _, X18, rfl, rfl, rfl, (fun h => by cases h), ⟨0, rfl, q18.trans hh16, Or.inr ⟨rfl, fun q => he (iff.mpr q)⟩⟩, fun fs hl => c19.trans (X18.ireturnOut hexec hret rfl (Or.inr (Or.inl rfl)) (hb hbytes d55) hl)⟩
    · have c13 : Steps p.tables e below (s₁.setTop (entryFrame m #[.ref x, .ref y] 3)) (T11.setTop (mkF m 55 #[.val (.ref x), .val (.ref y), .val (.ref y)] [.int 0])) := c12.trans (by
        refine XS.icmpYes X11.here hexec rfl (pc0 := 33) rfl (hb hbytes d33) rfl (ii_ne_t hcd) (by decide) rfl ?_
        refine iconstV X11.here hexec rfl 0 (hb hbytes d54) (by decide) ?_
        exact Steps.refl _)
      exact ⟨T11, some (.int 0), _, _, _, X11, rfl, rfl, rfl, (fun h => by cases h), ⟨0, rfl, hh11, Or.inr ⟨rfl, Cod.dif hx.2.2.2.2.1 hy.2.2.2.2.1 hcd⟩⟩, fun fs hl => c13.trans (X11.ireturnOut hexec hret rfl (Or.inr (Or.inl rfl)) (hb hbytes d55) hl)⟩
theorem pays {l : Launch} {R : Room} {p : Program} {e : Env} {below : List Frame} {s : State} {sargs : Array Value} {len W : Nat} (x t : Addr) (V : Cell) (cd : Int32) (n : Nat) (f : Nat → Int32) (y t' : Addr) (V' : Cell) (cd' : Int32) (k : Nat) (g : Nat → Int32) (z : Int32) (htab : tab.before sargs s = true) (hfr : 2 ≤ R.frames) (hlo : W + 28 ≤ R.locals) :
    Back l R p e below s sargs yN len W (fun A₁ a₁ => A₁.cells + 0 ≤ R.cells ∧ A₁.slots + 0 ≤ R.slots ∧ P x t V cd n f y t' V' cd' k g z a₁ A₁.U) (fun A₁ _ v₁ B₁ => Says01 (SameT n f k g) v₁ A₁.U B₁.U ∧ B₁.locs = A₁.locs ++ [] ∧ B₁.cells = A₁.cells + 0 ∧ B₁.slots = A₁.slots + 0) :=
  (law l x t V cd n f y t' V' cd' k g z).pays htab hfr (by omega)
end SEq
end StrChars
namespace StrChars.Road
open Jvm Sem ClassFile Op Lib Jvm.Stand Jvm.Free Jvm.Free.XT
open Jvm.Lib.Cold (StaticIs)
/-- the words of String.equals(Object) -/
abbrev wordsEq : List Jvm.Cond := [.code SEq.yN SEq.yB 3 (some .boolean), .initialized ST, .classLink ST 10 ST, .fieldLink ST 38 ST "COMPACT_STRINGS" "Z", .fieldLink ST 15 ST "coder" "B", .fieldLink ST 9 ST "value" "[B", .methodLink ST 541 LEq.yN, .static LEq.yN, .code LEq.yN LEq.yB 3 (some .boolean), .initialized "java/lang/StringLatin1"]
theorem tabEq_of {a : Array Value} {s : State} (h : ∀ w ∈ wordsEq, w.before a s = true) : SEq.tab.before a s = true := by
  have hl : LEq.tab.before a s = true := unparts (wk h (.code LEq.yN LEq.yB 3 (some .boolean))) (wks h (.initialized LEq.yN.cls :: LEq.site))
  have q := consq hl h
  exact unparts (wk q (.code SEq.yN SEq.yB 3 (some .boolean))) (wks q (.initialized SEq.yN.cls :: SEq.site))
theorem movedEq {Z s : State} {a0 args : Array Value} (hZ : Z.Warmed39 s.vm) (hw : ∀ d ∈ wordsEq, d.before a0 Z = true) : ∀ d ∈ wordsEq, d.before args s = true := fun d hd => by
  have t : ∀ d ∈ wordsEq, (d.onTables && d.keepsFace) = true := by decide +kernel
  exact RoadKit.mv hZ (hw d hd) (t d hd)
/-- the road's facts of a String, as the laws ask it -/
theorem txt_of {Z U : State} {a0 : Array Value} {kI : Nat} (wi : (Jvm.Cond.instantiable ST kI).before a0 Z = true) (al : Z.vm.Alike U.vm) {x t : Addr} {kb : ClassId} {cs : List Int32} {cd N2 : Int32} {vs : List Value} (E : RoadKit.Exa Z U.heap x ST) (V : RoadKit.Fld Z U.heap x ST "value" "[B" (.ref t)) (C : RoadKit.Fld Z U.heap x ST "coder" "B" (.int cd)) (K : RoadKit.Arv Z U.heap t kb .byte N2 vs (.int 0)) (hc : CodA cs cd N2 vs) (hb : ∀ c ∈ cs, ¬ c < 0 ∧ ¬ (65535 : Int32) < c) (l2 : cs.length ≤ 4000) :
    ∃ A, Txt x t A cd cs.length (fun j => cs.getD j 0) U := by
  obtain ⟨A, K1, K2, K3, K4, K5, K6⟩ := K
  have hcod := hc.cod (by omega) K3 K5
  obtain ⟨D, fV, fC, hB, F1, F2, g1, g2, -, -⟩ := strObj wi al E V C
  exact ⟨A, ⟨_, hB.2.2.1, D, hB.1, rfl, by cases q : D.vm <;> first | rfl | exact absurd q (hB.2.1.2 _)⟩, Has.of hB F1 g1, Has.of hB F2 g2, ⟨K1.1, State.isArrayOf_alike al K1.2.1, K1.2.2, by rcases hcod with ⟨-, q, -⟩ | ⟨-, q, -⟩ <;> omega⟩, hcod, fun j hj => by
    have e : cs.getD j 0 = cs[j] := by simp [List.getD_eq_getElem?_getD, hj]
    show ¬ cs.getD j 0 < 0 ∧ ¬ 65535 < cs.getD j 0
    rw [e]; exact hb _ (List.getElem_mem _)⟩
theorem same_list (cs ds : List Int32) : SameT cs.length (fun j => cs.getD j 0) ds.length (fun j => ds.getD j 0) ↔ cs = ds := by
  constructor
  · rintro ⟨e, q⟩
    refine List.ext_getElem e fun j h1 h2 => ?_
    have := q j h1
    simpa [List.getD_eq_getElem?_getD, h1, h2] using this
  · rintro rfl
    exact ⟨rfl, fun _ _ => rfl⟩
/-- **equals(Object) OF TWO SUCH STRINGS**: 1 just where the chars are the same -/
theorem eqW {p : Program} {l : Launch} {e : Env} {R : Room} {s : State} {args : Array Value} {below : List Frame} {len W : Nat} {Z : State} {a0 : Array Value} {h : Heap} (hZ : Z.Warmed39 s.vm) (hw : ∀ d ∈ wordsEq, d.before a0 Z = true) {kI : Nat} (wi : (Jvm.Cond.instantiable ST kI).before a0 Z = true)
    {x t : Addr} {kb : ClassId} {cs : List Int32} {cd N2 : Int32} {vs : List Value} (E : RoadKit.Exa Z h x ST) (V : RoadKit.Fld Z h x ST "value" "[B" (.ref t)) (C : RoadKit.Fld Z h x ST "coder" "B" (.int cd)) (K : RoadKit.Arv Z h t kb .byte N2 vs (.int 0)) (hc : CodA cs cd N2 vs) (hb : ∀ c ∈ cs, ¬ c < 0 ∧ ¬ (65535 : Int32) < c) (l2 : cs.length ≤ 4000)
    {y t' : Addr} {kb' : ClassId} {ds : List Int32} {cd' N2' : Int32} {vs' : List Value} (E' : RoadKit.Exa Z h y ST) (V' : RoadKit.Fld Z h y ST "value" "[B" (.ref t')) (C' : RoadKit.Fld Z h y ST "coder" "B" (.int cd')) (K' : RoadKit.Arv Z h t' kb' .byte N2' vs' (.int 0)) (hc' : CodA ds cd' N2' vs') (hb' : ∀ c ∈ ds, ¬ c < 0 ∧ ¬ (65535 : Int32) < c) (l2' : ds.length ≤ 4000)
    {z : Int32} (S : RoadKit.Sta Z h ST "COMPACT_STRINGS" "Z" (.int z)) (hz : ¬ z = 0) (hfr : 2 ≤ R.frames) (hlo : W + 28 ≤ R.locals) :
    Back l R p e below s args (⟨"java/lang/String", "equals", "(Ljava/lang/Object;)Z"⟩ : MethodName) len W (fun P a => a = #[.ref x, .ref y] ∧ P.U.heap = h ∧ P.cells + 0 ≤ R.cells ∧ P.slots + 0 ≤ R.slots)
      (fun P _ v B => ∃ L, (((v = some (.int 1) ∧ cs = ds) ∨ (v = some (.int 0) ∧ ¬ cs = ds)) ∧ L = [] ∧ B.U.heap = h) ∧ B.locs = P.locs ++ L ∧ B.cells = P.cells + 0 ∧ B.slots = P.slots + 0) := by
  intro m meth c P g ig mk a X hg hsize hdg hW hn hp'
  obtain ⟨rfl, rfl, r1, r2⟩ := hp'
  have al : Z.vm.Alike P.U.vm := hZ.alike.trans X.warmed.alike
  obtain ⟨A, hx⟩ := txt_of wi al E V C K hc hb l2
  obtain ⟨A', hy⟩ := txt_of wi al E' V' C' K' hc' hb' l2'
  obtain ⟨v, B, X', ⟨⟨w, hv, hh, hq⟩, hl, hk, hs⟩, st⟩ := SEq.pays x t A cd cs.length (fun j => cs.getD j 0) y t' A' cd' ds.length (fun j => ds.getD j 0) z (tabEq_of (movedEq hZ hw)) hfr hlo m meth c P g ig mk _ X hg hsize hdg hW hn ⟨r1, r2, rfl, hx, hy, sta_is al S, hz⟩
  refine ⟨v, B, X', ⟨[], ⟨?_, rfl, hh⟩, hl, hk, hs⟩, st⟩
  rcases hq with ⟨rfl, q⟩ | ⟨rfl, q⟩
  · exact Or.inl ⟨hv, (same_list cs ds).mp q⟩
  · exact Or.inr ⟨hv, fun e => q ((same_list cs ds).mpr e)⟩
end StrChars.Road
namespace StrChars.Road
open Jvm Sem ClassFile Op Lib Jvm.Stand Jvm.Free Jvm.Free.XT
open Jvm.Lib.Cold (StaticIs)
/-- what backV says of its String, as the contracts of this text ask it: cs's low bytes, coder 0 -/
theorem codOf {cs : List Int32} {n : Nat} (hn : cs.length = n) (hb : ∀ c ∈ cs, ¬ 255 < c) : CodA cs 0 (Int32.ofNat n) ((cs.map lo8).map Value.int) := Or.inl ⟨rfl, by rw [hn], by simp [List.map_map, Function.comp_def], hb⟩
end StrChars.Road
end Jvm.Pilot.@@N@@
namespace Jvm.Pilot.@@N@@
open Jvm Jvm.ClassFile Sem Op Lib Jvm.Free Jvm.Stand Jvm.LawKit Jvm.RoadKit Bundle Jvm.Pilot.@@N@@.Jvm.D
theorem own_nb {v : Int32} (h : v = 0 ∨ v = 1) : narrow .boolean (.int v) = .int v := by rcases h with rfl | rfl <;> rfl
theorem own_i2c {x : Int32} (h0 : ¬ x < 0) (h1 : ¬ 65535 < x) : x.toUInt32.toUInt16.toUInt32.toInt32 = x := by
  have e0 : (0 : Int32).toInt = 0 := rfl
  have e1 : (65535 : Int32).toInt = 65535 := rfl
  rw [Int32.lt_iff_toInt_lt, e0] at h0
  rw [Int32.lt_iff_toInt_lt, e1] at h1
  apply Int32.toBitVec_inj.mp
  apply BitVec.eq_of_toNat_eq
  have e : x.toUInt32.toUInt16.toUInt32.toInt32.toBitVec.toNat = x.toUInt32.toUInt16.toUInt32.toNat := rfl
  rw [e, UInt16.toNat_toUInt32, UInt32.toNat_toUInt16]
  show x.toBitVec.toNat % 2 ^ 16 = _
  have q : x.toInt = x.toBitVec.toInt := rfl
  rw [q, BitVec.toInt_eq_toNat_cond] at h0 h1
  have := x.toBitVec.isLt
  split at h0 <;> omega
theorem own_and255 (x : Int32) : ¬ (x &&& 255) < 0 ∧ ¬ 255 < (x &&& 255) := by
  have h : (x &&& 255).toBitVec.toNat < 256 := by
    simp only [Int32.toBitVec_and, BitVec.toNat_and]
    exact Nat.lt_succ_of_le Nat.and_le_right
  have e0 : (0 : Int32).toInt = 0 := rfl
  have e1 : (255 : Int32).toInt = 255 := rfl
  rw [Int32.lt_iff_toInt_lt, Int32.lt_iff_toInt_lt, e0, e1]
  have q : (x &&& 255).toInt = (x &&& 255).toBitVec.toInt := rfl
  rw [q, BitVec.toInt_eq_toNat_cond]
  split <;> omega
/-- a char below 256 -/
def C8 (x : Int32) : Prop := ¬ x < 0 ∧ ¬ (255 : Int32) < x
theorem own_up1 {x : Int32} (h : C8 x) : ¬ x < 0 ∧ ¬ (65535 : Int32) < x := ⟨h.1, fun q => h.2 (by rw [Int32.lt_iff_toInt_lt] at q ⊢; have e1 : (65535 : Int32).toInt = 65535 := rfl; have e2 : (255 : Int32).toInt = 255 := rfl; omega)⟩
theorem own_nar {x : Int32} (h : C8 x) : nar .char x = x := own_i2c (own_up1 h).1 (own_up1 h).2
theorem own_c8m (x : Int32) : C8 ((x &&& 255).toUInt32.toUInt16.toUInt32.toInt32) := by rw [i2c_mask]; exact own_and255 x
theorem own_c8n {x : Int32} (h : C8 x) : C8 (nar .char x) := by rw [own_nar h]; exact h
theorem own_nc {v : Int32} (h : ¬ v < 0 ∧ ¬ 65535 < v) : narrow .char (.int v) = .int v := by
  show Value.int (v.toUInt32.toUInt16.toUInt32.toInt32) = .int v
  rw [own_i2c h.1 h.2]
theorem own_nref {t : FieldType} {w : Value} (h : w.isRef = true) : narrow t w = w := by rcases ref_cases h with rfl | ⟨a, rfl⟩ <;> cases t <;> rfl
theorem own_al0 {P : Int32 → Prop} : ∀ c ∈ ([] : List Int32), P c := fun _ h => nomatch h
theorem own_alS {P : Int32 → Prop} {a : Int32} {L : List Int32} (h : P a) (r : ∀ c ∈ L, P c) : ∀ c ∈ a :: L, P c := List.forall_mem_cons.mpr ⟨h, r⟩
theorem own_up (cs : List Int32) (h : ∀ c ∈ cs, ¬ c < 0 ∧ ¬ (255 : Int32) < c) : ∀ c ∈ cs, ¬ c < 0 ∧ ¬ (65535 : Int32) < c := fun c hc => own_up1 (h c hc)
/-- a flag r says P -/
abbrev TF (r : Int32) (P : Prop) : Prop := (r = 1 ∧ P) ∨ (r = 0 ∧ ¬ P)
theorem own_y {r : Int32} {P : Prop} (h : TF r P) (q : ¬ r = 0) : P := h.elim (fun z => z.2) (fun z => absurd z.1 q)
theorem own_n {r : Int32} {P : Prop} (h : TF r P) (q : r = 0) : ¬ P := h.elim (fun z => absurd (z.1.symm.trans q) (by decide)) (fun z => z.2)
theorem own_b {r : Int32} {P : Prop} (h : TF r P) : r = 0 ∨ r = 1 := h.elim (fun z => Or.inr z.1) (fun z => Or.inl z.1)
theorem own_is1 {r : Int32} {P : Prop} (h : TF r P) (q : P) : r = 1 := h.elim (fun z => z.1) (fun z => absurd q z.2)
theorem own_is0 {r : Int32} {P : Prop} (h : TF r P) (q : ¬ P) : r = 0 := h.elim (fun z => absurd z.2 q) (fun z => z.1)
theorem own_ofN {a : Nat} (h : a < 2147483648) : (Int32.ofNat a).toInt = a := Int32.toInt_ofNat_small h
theorem own_ofN_lt {a b : Nat} (ha : a < 2147483648) (hb : b < 2147483648) : Int32.ofNat a < Int32.ofNat b ↔ a < b := by
  rw [Int32.lt_iff_toInt_lt, own_ofN ha, own_ofN hb]; omega
theorem own_ofN_inj {a b : Nat} (ha : a < 2147483648) (hb : b < 2147483648) : Int32.ofNat a = Int32.ofNat b ↔ a = b := by
  rw [← Int32.toInt_inj, own_ofN ha, own_ofN hb]; omega
theorem own_mask31 (x : Int32) : ∃ a : Nat, a < 2147483648 ∧ x &&& 2147483647 = Int32.ofNat a := by
  have h : (x &&& 2147483647).toBitVec.toNat < 2147483648 := by
    simp only [Int32.toBitVec_and, BitVec.toNat_and]
    exact Nat.lt_succ_of_le Nat.and_le_right
  refine ⟨_, h, ?_⟩
  apply Int32.toBitVec_inj.mp
  show _ = BitVec.ofNat 32 _
  rw [BitVec.ofNat_toNat]; simp
theorem own_rem31 (x : Int32) {m : Nat} (h0 : 0 < m) (h1 : m < 2147483648) : ∃ a : Nat, a < m ∧ (x &&& 2147483647) % Int32.ofNat m = Int32.ofNat a := by
  obtain ⟨a, ha, e⟩ := own_mask31 x
  refine ⟨a % m, Nat.mod_lt _ h0, ?_⟩
  rw [e]
  apply Int32.toInt_inj.mp
  have q : a % m ≤ a := Nat.mod_le _ _
  rw [Int32.toInt_mod, own_ofN ha, own_ofN h1, own_ofN (by omega)]
  exact (Int.ofNat_tmod a m).symm
theorem own_b8 (x : Int32) : (x.toInt8.toInt32).toInt8.toInt32 = x.toInt8.toInt32 := by simp
/-- a Latin-1 String x of the chars cs, its bytes at t -/
def OStr (Z : State) (h : Heap) (x t : Addr) (kb : ClassId) (cs : List Int32) : Prop :=
  Exa Z h x "java/lang/String" ∧ Fld Z h x "java/lang/String" "value" "[B" (.ref t) ∧ Fld Z h x "java/lang/String" "coder" "B" (.int 0) ∧ Arv Z h t kb .byte (Int32.ofNat cs.length) ((cs.map (fun c => c.toInt8.toInt32)).map Value.int) (.int 0) ∧ (∀ c ∈ cs, ¬ c < 0 ∧ ¬ (255 : Int32) < c) ∧ cs.length ≤ 4000
theorem OStr.cod {Z : State} {h : Heap} {x t : Addr} {kb : ClassId} {cs : List Int32} (S : OStr Z h x t kb cs) : StrChars.Road.CodA cs 0 (Int32.ofNat cs.length) ((cs.map (fun c => c.toInt8.toInt32)).map Value.int) := StrChars.Road.codOf rfl (fun c hc => (S.2.2.2.2.1 c hc).2)
theorem own_tfv {v : Option Value} {P : Prop} (h : (v = some (.int 1) ∧ P) ∨ (v = some (.int 0) ∧ ¬ P)) : ∃ r : Int32, v = some (.int r) ∧ TF r P := h.elim (fun z => ⟨1, z.1, Or.inl ⟨rfl, z.2⟩⟩) (fun z => ⟨0, z.1, Or.inr ⟨rfl, z.2⟩⟩)
theorem own_tfeq {r v : Int32} {P : Prop} (h1 : TF r P) (h2 : TF v P) : r = v := h1.elim (fun z => z.1.trans (own_is1 h2 z.2).symm) (fun z => z.1.trans (own_is0 h2 z.2).symm)
theorem own_tfiff {r : Int32} {P Q : Prop} (h : TF r P) (i : P ↔ Q) : TF r Q := h.imp (fun z => ⟨z.1, i.mp z.2⟩) (fun z => ⟨z.1, fun q => z.2 (i.mpr q)⟩)
theorem own_ushr (x : Int32) {k : Nat} (hk : 0 < k ∧ k < 32) : ∃ a : Nat, a < 2147483648 ∧ (x.toUInt32 >>> (Int32.ofNat k &&& 31).toUInt32).toInt32 = Int32.ofNat a := by
  obtain ⟨h0, h1⟩ := hk
  refine ⟨x.toUInt32.toNat >>> k, ?_, ?_⟩
  · have := x.toUInt32.toNat_lt
    rw [Nat.shiftRight_eq_div_pow]
    have : 2 ^ 1 ≤ 2 ^ k := Nat.pow_le_pow_right (by decide) h0
    apply Nat.div_lt_of_lt_mul
    omega
  · have e : (Int32.ofNat k &&& 31).toUInt32 = UInt32.ofNat k := by
      have : k < 32 := h1
      have q : ∀ j : Fin 32, (Int32.ofNat j.val &&& 31).toUInt32 = UInt32.ofNat j.val := by decide
      exact q ⟨k, h1⟩
    rw [e]
    apply Int32.toBitVec_inj.mp
    apply BitVec.eq_of_toNat_eq
    show (x.toUInt32 >>> UInt32.ofNat k).toNat = (BitVec.ofNat 32 _).toNat
    rw [UInt32.toNat_shiftRight, BitVec.toNat_ofNat]
    have hlt : x.toUInt32.toNat >>> k < 2 ^ 32 := Nat.lt_of_le_of_lt (Nat.shiftRight_le _ _) x.toUInt32.toNat_lt
    rw [Nat.mod_eq_of_lt hlt]
    congr 1
    simp
    omega
theorem own_tfe {v : Option Value} {n : Nat} (h : v = some (.int (if n = 0 then 1 else 0))) : ∃ r : Int32, v = some (.int r) ∧ TF r (n = 0) := by
  by_cases q : n = 0
  · exact ⟨1, by rw [h, if_pos q], Or.inl ⟨rfl, q⟩⟩
  · exact ⟨0, by rw [h, if_neg q], Or.inr ⟨rfl, q⟩⟩
theorem own_m4 (x : Int32) : x &&& 3 = 0 ∨ x &&& 3 = 1 ∨ x &&& 3 = 2 ∨ x &&& 3 = 3 := by
  have h : (x &&& 3).toBitVec.toNat < 4 := by
    simp only [Int32.toBitVec_and, BitVec.toNat_and]
    exact Nat.lt_succ_of_le Nat.and_le_right
  have e : ∀ k : Nat, (x &&& 3).toBitVec.toNat = k → x &&& 3 = Int32.ofNat k := fun k hk => by
    apply Int32.toBitVec_inj.mp
    show _ = BitVec.ofNat 32 _
    rw [← hk, BitVec.ofNat_toNat]; simp
  have q : (x &&& 3).toBitVec.toNat = 0 ∨ (x &&& 3).toBitVec.toNat = 1 ∨ (x &&& 3).toBitVec.toNat = 2 ∨ (x &&& 3).toBitVec.toNat = 3 := by omega
  rcases q with q | q | q | q
  · exact Or.inl (e 0 q)
  · exact Or.inr (Or.inl (e 1 q))
  · exact Or.inr (Or.inr (Or.inl (e 2 q)))
  · exact Or.inr (Or.inr (Or.inr (e 3 q)))
theorem own_m3 (x : Int32) : (x &&& 3) % 3 = 0 ∨ (x &&& 3) % 3 = 1 ∨ (x &&& 3) % 3 = 2 := by
  rcases own_m4 x with q | q | q | q <;> rw [q] <;> decide
theorem own_idx {a m : Nat} (h : a < m) (hm : m < 2147483648) : ¬ Int32.ofNat a < 0 ∧ Int32.ofNat a < Int32.ofNat m := by
  have e0 : (0 : Int32).toInt = 0 := rfl
  rw [Int32.lt_iff_toInt_lt, Int32.lt_iff_toInt_lt, e0, own_ofN (by omega), own_ofN hm]; omega
theorem own_in_words : ∀ d ∈ StrChars.Road.words, d ∈ tables_1 := by decide +kernel
theorem own_in_wordsEq : ∀ d ∈ StrChars.Road.wordsEq, d ∈ tables_1 := by decide +kernel
abbrev EL : List (String × Nat) := [("com/example/evenkeel/evenkeel/Route", 7), ("com/example/evenkeel/evenkeel/Route", 22), ("java/lang/String", 7)]
theorem own_since (s : State) : s.Since s.vm 0 := (State.WarmedH.refl s).since 0
theorem own_safe {Z : State} {vm : Vm} {h : Heap} {x : Addr} (hal : Z.vm.Alike vm) (E : Exa Z h x "java/lang/String") (F : Fld Z h x "java/lang/String" "value" "[B" .null) : Safe Z EL vm h x := fun B => by
  obtain ⟨cl1, k, e1, e2, -⟩ := E
  obtain ⟨cl2, cf, k2, i, f, f1, f2, -, -, -, -, f7⟩ := F
  cases e1.symm.trans f1
  obtain ⟨p, -, u, a, -, q, -, G, rfl | rfl⟩ := B
  · cases (show h[q.sa]? = some q.sC from G.ha).symm.trans e1
    obtain ⟨cS, ⟨⟨-, -, -, ⟨cv, kv, iv, s4, -⟩, -, -, -, s8, -⟩, -⟩, -⟩ := G
    obtain ⟨k3, z⟩ := ff_back (U := Wst Z vm h) hal s4
    cases f2.symm.trans z
    cases f7.symm.trans s8
  · cases (show h[q.sd]? = some q.SA from G.hd).symm.trans e1
    obtain ⟨cS, -, -, g, -⟩ := G
    have g' : vm.findClass "[B" = some q.SA.cls := g
    rw [hal.findClass] at g'
    obtain ⟨k1, q1, q2⟩ := Vm.findClass_spec g'
    obtain ⟨k3, q3, q4⟩ := Vm.findClass_spec e2
    cases q1.symm.trans q3
    exact absurd (q2.symm.trans q4) (by decide)
abbrev EL0 : List (String × Nat) := []
theorem own_safe0 {Z : State} {vm : Vm} {h : Heap} {x : Addr} : Safe Z EL0 vm h x := fun B => by
  obtain ⟨p, hp, -⟩ := B
  cases hp
theorem own_CH0 {Z : State} {vm : Vm} {h : Heap} : CHv Z EL0 vm h := fun p hp => nomatch hp
theorem own_CHr0 {Z : State} {vm vm1 : Vm} {h h1 : Heap} (q : h.size ≤ h1.size) : CHr Z EL0 vm h vm1 h1 := ⟨own_CH0, q, fun y B => absurd B own_safe0⟩
theorem own_EW {Z : State} {a0 : Array Value} (hw : ∀ d ∈ tables_1, d.before a0 Z = true) : EW Z a0 EL := (EW.cons (hw _ (List.mem_of_getElem? (i := 44) rfl)) (by decide) (EW.cons (hw _ (List.mem_of_getElem? (i := 52) rfl)) (by decide) (EW.cons (hw _ (List.mem_of_getElem? (i := 18) rfl)) (by decide) EW.nil)))
theorem own_strw {Z : State} {a0 : Array Value} (hw : ∀ d ∈ tables_1, d.before a0 Z = true) : ∀ a ∈ Bundle.stringAtoms, a.before a0 Z = true := fun d hd => hw d ((by decide +kernel : ∀ d ∈ Bundle.stringAtoms, d ∈ tables_1) d hd)
theorem own_CH {s : State} {args : Array Value} {tb : Tables} {e : Env} (hw : ∀ d ∈ tables_1, d.before args s = true) (hc : call_1_1 tb e args s) (h2 : (Jvm.Cond.not (Jvm.Cond.eq (Jvm.Term.static "java/lang/String" "COMPACT_STRINGS" "Z") (Jvm.Term.int (0 : Int32)))).before args s = true) : CHv s EL s.vm s.heap := CHv.start (a0 := args) (own_EW hw) hc h2 (hw _ (List.mem_of_getElem? (i := 19) rfl)) (hw _ (List.mem_of_getElem? (i := 5) rfl))
/-- the hash of the chars, as String computes it -/
def own_hk (cs : List Int32) (k : Nat) : Int32 := (cs.take k).foldl (fun a ch => 31 * a + ch) 0
theorem own_hk1 {cs : List Int32} {k : Nat} (h : k < cs.length) : own_hk cs (k + 1) = 31 * own_hk cs k + cs.getD k 0 := by
  unfold own_hk
  rw [List.take_succ_eq_append_getElem h, List.foldl_append, List.getD_eq_getElem?_getD, List.getElem?_eq_getElem h]
  rfl
def own_hash (cs : List Int32) : Int32 := own_hk cs cs.length
/-- a String made here: its text, its hash not yet computed -/
def OStrH (Z : State) (h : Heap) (x t : Addr) (kb : ClassId) (cs : List Int32) : Prop := OStr Z h x t kb cs ∧ Fld Z h x "java/lang/String" "hash" "I" (.int (0 : Int32)) ∧ Fld Z h x "java/lang/String" "hashIsZero" "Z" (.int (0 : Int32)) ∧ (2 ≤ cs.length → Z.vm.findClass "[B" = some kb)
theorem own_exaB {Z : State} {h : Heap} {t : Addr} {kb : ClassId} {z : Int32} {vs : List Value} {dv : Value} (V : Arv Z h t kb .byte z vs dv) (hf : Z.vm.findClass "[B" = some kb) : Exa Z h t "[B" := by
  obtain ⟨c, A, q, -⟩ := V
  obtain ⟨h1, ⟨h2, k, h3, comp, h4⟩, h5⟩ := A
  subst q
  refine ⟨c, k, h1, hf, h3, ?_, fun z => by rw [h4] at z; cases z⟩
  cases hv : c.vm.isStatics with
  | false => rfl
  | true => exact absurd (show c.vm.isStatics = false from Arr.plain (⟨h1, ⟨h2, k, h3, comp, h4⟩, h5⟩ : Arr Z h t c .byte)) (by rw [hv]; decide)
theorem own_get8 {cs : List Int32} {k : Nat} (h : ∀ ch ∈ cs, C8 ch) (hk : k < cs.length) : C8 (cs.getD k 0) := by
  rw [List.getD_eq_getElem?_getD, List.getElem?_eq_getElem hk]; exact h _ (List.getElem_mem hk)
theorem own_getb {cs : List Int32} {k : Nat} (hk : k < cs.length) (h2 : k < 2147483648) : ((cs.map (fun c => c.toInt8.toInt32)).map Value.int).getD (Int32.ofNat k).toNatClampNeg (.int 0) = .int ((cs.getD k 0).toInt8.toInt32) := by
  rw [clamp_of rfl h2]
  simp [List.getD_eq_getElem?_getD, hk]
theorem own_h1 {cs : List Int32} (h : cs.length = 1) : own_hash cs = cs.getD 0 0 := by
  match cs, h with
  | [a], _ => show 31 * 0 + a = a; simp
theorem own_h0 {cs : List Int32} (h : cs.length = 0) : own_hash cs = 0 := by
  match cs, h with
  | [], _ => rfl
def QInt (Z : State) (r : Int32) (h0 : Heap) (n0 : Nat) (v : Option Value) (h : Heap) (L : List Loc) : Prop := v = some (.int r) ∧ Fr n0 L ∧ h = h0

theorem d_jdk_48_method_5_code_0 : decode jdk_48_method_5_code 0 = .ok (.iload_n 2, 1) := by decide +kernel
theorem d_jdk_48_method_5_code_1 : decode jdk_48_method_5_code 1 = .ok (.iload_n 3, 1) := by decide +kernel
theorem d_jdk_48_method_5_code_2 : decode jdk_48_method_5_code 2 = .ok (.iadd, 1) := by decide +kernel
theorem d_jdk_48_method_5_code_3 : decode jdk_48_method_5_code 3 = .ok (.istore 4, 2) := by decide +kernel
theorem d_jdk_48_method_5_code_5 : decode jdk_48_method_5_code 5 = .ok (.iload_n 2, 1) := by decide +kernel
theorem d_jdk_48_method_5_code_6 : decode jdk_48_method_5_code 6 = .ok (.istore 5, 2) := by decide +kernel
theorem d_jdk_48_method_5_code_8 : decode jdk_48_method_5_code 8 = .ok (.iload 5, 2) := by decide +kernel
theorem d_jdk_48_method_5_code_10 : decode jdk_48_method_5_code 10 = .ok (.iload 4, 2) := by decide +kernel
theorem d_jdk_48_method_5_code_12 : decode jdk_48_method_5_code 12 = .ok (.if_icmp .ge 23, 3) := by decide +kernel
theorem d_jdk_48_method_5_code_15 : decode jdk_48_method_5_code 15 = .ok (.bipush 31, 2) := by decide +kernel
theorem d_jdk_48_method_5_code_17 : decode jdk_48_method_5_code 17 = .ok (.iload_n 0, 1) := by decide +kernel
theorem d_jdk_48_method_5_code_18 : decode jdk_48_method_5_code 18 = .ok (.imul, 1) := by decide +kernel
theorem d_jdk_48_method_5_code_19 : decode jdk_48_method_5_code 19 = .ok (.aload_n 1, 1) := by decide +kernel
theorem d_jdk_48_method_5_code_20 : decode jdk_48_method_5_code 20 = .ok (.iload 5, 2) := by decide +kernel
theorem d_jdk_48_method_5_code_22 : decode jdk_48_method_5_code 22 = .ok (.baload, 1) := by decide +kernel
theorem d_jdk_48_method_5_code_23 : decode jdk_48_method_5_code 23 = .ok (.sipush 255, 3) := by decide +kernel
theorem d_jdk_48_method_5_code_26 : decode jdk_48_method_5_code 26 = .ok (.iand, 1) := by decide +kernel
theorem d_jdk_48_method_5_code_27 : decode jdk_48_method_5_code 27 = .ok (.iadd, 1) := by decide +kernel
theorem d_jdk_48_method_5_code_28 : decode jdk_48_method_5_code 28 = .ok (.istore_n 0, 1) := by decide +kernel
theorem d_jdk_48_method_5_code_29 : decode jdk_48_method_5_code 29 = .ok (.iinc 5 1, 3) := by decide +kernel
theorem d_jdk_48_method_5_code_32 : decode jdk_48_method_5_code 32 = .ok (.goto (-24), 3) := by decide +kernel
theorem d_jdk_48_method_5_code_35 : decode jdk_48_method_5_code 35 = .ok (.iload_n 0, 1) := by decide +kernel
theorem d_jdk_48_method_5_code_36 : decode jdk_48_method_5_code 36 = .ok (.ireturn, 1) := by decide +kernel
theorem pn_jdk_internal_util_ArraysSupport : plainName "jdk/internal/util/ArraysSupport" = true := by first | (simp [plainName, overriddenIn]; done) | decide +kernel
theorem ef_rmSgn (m : MethodId) (x0 : Int32) (x1 : Addr) (x2 : Int32) (x3 : Int32) : entryFrame m #[(.int x0), (.ref x1), (.int x2), (.int x3)] 6 = mkF m 0 #[.val (.int x0), .val (.ref x1), .val (.int x2), .val (.int x3), .unset, .unset] [] := by first | (simp [entryFrame, mkF, argsToLocals, Value.category]; done) | rfl
set_option maxRecDepth 65536 in
set_option maxHeartbeats 40000000 in
theorem rmSgn (l : Launch) (Z : State) (a0 : Array Value) (hw : ∀ d ∈ tables_1, d.before a0 Z = true) (ws : List Jvm.Cond) (tx : Addr) (kx : ClassId) (cs : List Int32) (h0 : Heap) (n0 : Nat) (Z0 : n0 ≤ h0.size) (Vx : Arv Z h0 tx kx .byte (Int32.ofNat cs.length) ((cs.map (fun c => c.toInt8.toInt32)).map Value.int) (.int 0)) (h8 : ∀ ch ∈ cs, C8 ch) (hl : cs.length ≤ 4000) :
    MetFree l (⟨"jdk/internal/util/ArraysSupport", "signedHashCode", "(I[BII)I"⟩ : MethodName) (head1 (Jvm.Cond.code (⟨"jdk/internal/util/ArraysSupport", "signedHashCode", "(I[BII)I"⟩ : MethodName) jdk_48_method_5_code 6 (some .int) :: ws) ({ frames := 0, cells := 0, slots := 0, locals := 0 } : Room)) (fun aa U => aa = #[(.int (0 : Int32)), (.ref tx), (.int (0 : Int32)), (.int (Int32.ofNat cs.length))] ∧ Z.Warmed39 U.vm ∧ U.heap = h0) (fun _ _ _ _ _ => True) (fun _ U o U' => ∃ v L, o = .returned v ∧ QInt Z (own_hash cs) h0 n0 v U'.heap L ∧ FrameEnd U o U' L ({ frames := 0, cells := 0, slots := 0, locals := 0 } : Room).cells ({ frames := 0, cells := 0, slots := 0, locals := 0 } : Room).slots) := by
  refine MetFree.of_bodySF (plainFor_of_name pn_jdk_internal_util_ArraysSupport) hisR ?_
  intro p e s m args below meth c s₁ Bd hml0 hP hK
  obtain ⟨rfl, hZ, hh⟩ := hP
  have hx := Bd.exec
  have hby := Bd.bytes
  have hml : c.maxLocals = 6 := hml0
  have hown : s.vm.findClass "jdk/internal/util/ArraysSupport" = some m.cls := findClass_of_methodNamed Bd.named
  have hnm := (name_of_methodNamed Bd.named Bd.method).1
  have X0 : Stand p l e ({ frames := 0, cells := 0, slots := 0, locals := 0 } : Room) s m #[(.int (0 : Int32)), (.ref tx), (.int (0 : Int32)), (.int (Int32.ofNat cs.length))] below meth c s₁ [] 0 0 := Stand.of_body Bd
  have e0 : s₁.heap = h0 := by rw [← hh, Bd.state]; rfl
  have N0 := Fr.nil n0
  have K0 := Keep.refl h0 []
  obtain ⟨S0, hS0⟩ : ∃ z, z = s₁.setTop (entryFrame m #[(.int (0 : Int32)), (.ref tx), (.int (0 : Int32)), (.int (Int32.ofNat cs.length))] 6) := ⟨_, rfl⟩
  rw [← hS0]
  have c0 : Steps p.tables e below S0 (s₁.setTop (mkF m 0 #[.val (.int (0 : Int32)), .val (.ref tx), .val (.int (0 : Int32)), .val (.int (Int32.ofNat cs.length)), .unset, .unset] [])) := by
    rw [hS0]; exact castTop (ef_rmSgn m (0 : Int32) tx (0 : Int32) (Int32.ofNat cs.length)) (Steps.refl _)
  have c1 : Steps p.tables e below S0 (s₁.setTop (mkF m 3 #[.val (.int (0 : Int32)), .val (.ref tx), .val (.int (0 : Int32)), .val (.int (Int32.ofNat cs.length)), .unset, .unset] [(.int ((0 : Int32) + (Int32.ofNat cs.length)))])) := c0.trans (by
    show Steps p.tables e below (s₁.setTop (mkF m 0 #[.val (.int (0 : Int32)), .val (.ref tx), .val (.int (0 : Int32)), .val (.int (Int32.ofNat cs.length)), .unset, .unset] [])) _
    refine XS.iloadN X0.here hx rfl (hb hby d_jdk_48_method_5_code_0) rfl ?_
    refine XS.iloadN X0.here hx rfl (hb hby d_jdk_48_method_5_code_1) rfl ?_
    refine XS.iadd X0.here hx rfl (hb hby d_jdk_48_method_5_code_2) rfl ?_
    exact Steps.refl _)
  rw [(show (0 : Int32) + Int32.ofNat cs.length = Int32.ofNat cs.length from Int32.zero_add _)] at c1
  have c2 : Steps p.tables e below S0 (s₁.setTop (mkF m 8 #[.val (.int (0 : Int32)), .val (.ref tx), .val (.int (0 : Int32)), .val (.int (Int32.ofNat cs.length)), .val (.int (Int32.ofNat cs.length)), .val (.int (0 : Int32))] [])) := c1.trans (by
    show Steps p.tables e below (s₁.setTop (mkF m 3 #[.val (.int (0 : Int32)), .val (.ref tx), .val (.int (0 : Int32)), .val (.int (Int32.ofNat cs.length)), .unset, .unset] [(.int (Int32.ofNat cs.length))])) _
    refine XS.istore X0.here hx rfl (hb hby d_jdk_48_method_5_code_3) rfl (l' := #[.val (.int (0 : Int32)), .val (.ref tx), .val (.int (0 : Int32)), .val (.int (Int32.ofNat cs.length)), .val (.int (Int32.ofNat cs.length)), .unset]) rfl ?_
    refine XS.iloadN X0.here hx rfl (hb hby d_jdk_48_method_5_code_5) rfl ?_
    refine XS.istore X0.here hx rfl (hb hby d_jdk_48_method_5_code_6) rfl (l' := #[.val (.int (0 : Int32)), .val (.ref tx), .val (.int (0 : Int32)), .val (.int (Int32.ofNat cs.length)), .val (.int (Int32.ofNat cs.length)), .val (.int (0 : Int32))]) rfl ?_
    exact Steps.refl _)
  have lp : ∀ (n k : Nat) (T : State) (locs : List Loc), n = cs.length - k → k ≤ cs.length → Fr n0 locs → Stand p l e ({ frames := 0, cells := 0, slots := 0, locals := 0 } : Room) s m #[(.int (0 : Int32)), (.ref tx), (.int (0 : Int32)), (.int (Int32.ofNat cs.length))] below meth c T locs 0 0 → T.heap = h0 → Steps p.tables e below S0 (T.setTop (mkF m 8 #[.val (.int (own_hk cs k)), .val (.ref tx), .val (.int (0 : Int32)), .val (.int (Int32.ofNat cs.length)), .val (.int (Int32.ofNat cs.length)), .val (.int (Int32.ofNat k))] [])) →
      ∃ (T : State) (locs : List Loc), Fr n0 locs ∧ Stand p l e ({ frames := 0, cells := 0, slots := 0, locals := 0 } : Room) s m #[(.int (0 : Int32)), (.ref tx), (.int (0 : Int32)), (.int (Int32.ofNat cs.length))] below meth c T locs 0 0 ∧ T.heap = h0 ∧ Steps p.tables e below S0 (T.setTop (mkF m 35 #[.val (.int (own_hk cs cs.length)), .val (.ref tx), .val (.int (0 : Int32)), .val (.int (Int32.ofNat cs.length)), .val (.int (Int32.ofNat cs.length)), .val (.int (Int32.ofNat cs.length))] [])) := by
    intro n
    induction n with
    | zero =>
      intro k T locs hn hkl NN X eT cc
      have c3 : Steps p.tables e below S0 (T.setTop (mkF m 35 #[.val (.int (own_hk cs k)), .val (.ref tx), .val (.int (0 : Int32)), .val (.int (Int32.ofNat cs.length)), .val (.int (Int32.ofNat cs.length)), .val (.int (Int32.ofNat k))] [])) := cc.trans (by
        show Steps p.tables e below (T.setTop (mkF m 8 #[.val (.int (own_hk cs k)), .val (.ref tx), .val (.int (0 : Int32)), .val (.int (Int32.ofNat cs.length)), .val (.int (Int32.ofNat cs.length)), .val (.int (Int32.ofNat k))] [])) _
        refine XS.iload X.here hx rfl (hb hby d_jdk_48_method_5_code_8) rfl ?_
        refine XS.iload X.here hx rfl (hb hby d_jdk_48_method_5_code_10) rfl ?_
        refine XS.icmpYes X.here hx rfl (pc0 := 12) (pc' := 35) rfl (hb hby d_jdk_48_method_5_code_12) rfl (flt (fun z => absurd ((own_ofN_lt (by omega) (by omega)).mp z) (by omega) : ¬ (Int32.ofNat k) < (Int32.ofNat cs.length))).2.1 (by decide) (by decide) ?_
        exact Steps.refl _)
      have ek : k = cs.length := by omega
      subst ek
      exact ⟨T, _, NN, X, eT, c3⟩
    | succ n ih =>
      intro k T locs hn hkl NN X eT cc
      have c4 : Steps p.tables e below S0 (T.setTop (mkF m 22 #[.val (.int (own_hk cs k)), .val (.ref tx), .val (.int (0 : Int32)), .val (.int (Int32.ofNat cs.length)), .val (.int (Int32.ofNat cs.length)), .val (.int (Int32.ofNat k))] [(.int (Int32.ofNat k)), (.ref tx), (.int ((31 : Int32) * (own_hk cs k)))])) := cc.trans (by
        show Steps p.tables e below (T.setTop (mkF m 8 #[.val (.int (own_hk cs k)), .val (.ref tx), .val (.int (0 : Int32)), .val (.int (Int32.ofNat cs.length)), .val (.int (Int32.ofNat cs.length)), .val (.int (Int32.ofNat k))] [])) _
        refine XS.iload X.here hx rfl (hb hby d_jdk_48_method_5_code_8) rfl ?_
        refine XS.iload X.here hx rfl (hb hby d_jdk_48_method_5_code_10) rfl ?_
        refine XS.icmpNo X.here hx rfl (hb hby d_jdk_48_method_5_code_12) rfl (tlt ((own_ofN_lt (by omega) (by omega)).mpr (by omega) : (Int32.ofNat k) < (Int32.ofNat cs.length))).2.1 ?_
        refine XS.bipush X.here hx rfl (hb hby d_jdk_48_method_5_code_15) ?_
        show Steps p.tables e below (T.setTop (mkF m 17 #[.val (.int (own_hk cs k)), .val (.ref tx), .val (.int (0 : Int32)), .val (.int (Int32.ofNat cs.length)), .val (.int (Int32.ofNat cs.length)), .val (.int (Int32.ofNat k))] [(.int (31 : Int32))])) _
        refine XS.iloadN X.here hx rfl (hb hby d_jdk_48_method_5_code_17) rfl ?_
        refine XS.imul X.here hx rfl (hb hby d_jdk_48_method_5_code_18) rfl ?_
        refine XS.aloadN X.here hx rfl (hb hby d_jdk_48_method_5_code_19) rfl rfl ?_
        refine XS.iload X.here hx rfl (hb hby d_jdk_48_method_5_code_20) rfl ?_
        exact Steps.refl _)
      have hk : k < cs.length := by omega
      obtain ⟨cl5, Ar5, -, S5, -, Ha5, -⟩ := id Vx
      have hin5 := inb_of (j := Int32.ofNat k) S5 (own_idx (m := cs.length) hk (by omega))
      have hat5 := Ha5.at hin5 (own_getb hk (by omega))
      have c6 : Steps p.tables e below S0 (T.setTop (mkF m 27 #[.val (.int (own_hk cs k)), .val (.ref tx), .val (.int (0 : Int32)), .val (.int (Int32.ofNat cs.length)), .val (.int (Int32.ofNat cs.length)), .val (.int (Int32.ofNat k))] [(.int (((cs.getD k 0).toInt8.toInt32) &&& (255 : Int32))), (.int ((31 : Int32) * (own_hk cs k)))])) := c4.trans (by
        show Steps p.tables e below (T.setTop (mkF m 22 #[.val (.int (own_hk cs k)), .val (.ref tx), .val (.int (0 : Int32)), .val (.int (Int32.ofNat cs.length)), .val (.int (Int32.ofNat cs.length)), .val (.int (Int32.ofNat k))] [(.int (Int32.ofNat k)), (.ref tx), (.int ((31 : Int32) * (own_hk cs k)))])) _
        refine X.baloadBytes hx (j := (Int32.ofNat k)) (v := (.int ((cs.getD k 0).toInt8.toInt32))) (by rw [eT]; exact Ar5.1) (State.isArrayOf_alike hZ.alike Ar5.2.1) Ar5.2.2 hin5 hat5 (g := (mkF m 22 #[.val (.int (own_hk cs k)), .val (.ref tx), .val (.int (0 : Int32)), .val (.int (Int32.ofNat cs.length)), .val (.int (Int32.ofNat cs.length)), .val (.int (Int32.ofNat k))] [(.int (Int32.ofNat k)), (.ref tx), (.int ((31 : Int32) * (own_hk cs k)))])) rfl rfl (hb hby d_jdk_48_method_5_code_22) _ ?_
        refine XS.sipush X.here hx rfl (hb hby d_jdk_48_method_5_code_23) ?_
        refine XS.iand X.here hx rfl (hb hby d_jdk_48_method_5_code_26) rfl ?_
        exact Steps.refl _)
      have c8 := own_get8 h8 hk
      have em : (cs.getD k 0).toInt8.toInt32 &&& (255 : Int32) = cs.getD k 0 := StrChars.lo8_mask c8.1 c8.2
      rw [em] at c6
      have c7 : Steps p.tables e below S0 (T.setTop (mkF m 8 #[.val (.int (((31 : Int32) * (own_hk cs k)) + (cs.getD k 0))), .val (.ref tx), .val (.int (0 : Int32)), .val (.int (Int32.ofNat cs.length)), .val (.int (Int32.ofNat cs.length)), .val (.int ((Int32.ofNat k) + (1 : Int32)))] [])) := c6.trans (by
        show Steps p.tables e below (T.setTop (mkF m 27 #[.val (.int (own_hk cs k)), .val (.ref tx), .val (.int (0 : Int32)), .val (.int (Int32.ofNat cs.length)), .val (.int (Int32.ofNat cs.length)), .val (.int (Int32.ofNat k))] [(.int (cs.getD k 0)), (.int ((31 : Int32) * (own_hk cs k)))])) _
        refine XS.iadd X.here hx rfl (hb hby d_jdk_48_method_5_code_27) rfl ?_
        refine XS.istoreN X.here hx rfl (hb hby d_jdk_48_method_5_code_28) rfl (l' := #[.val (.int (((31 : Int32) * (own_hk cs k)) + (cs.getD k 0))), .val (.ref tx), .val (.int (0 : Int32)), .val (.int (Int32.ofNat cs.length)), .val (.int (Int32.ofNat cs.length)), .val (.int (Int32.ofNat k))]) rfl ?_
        refine XS.iinc X.here hx rfl (hb hby d_jdk_48_method_5_code_29) rfl (l' := #[.val (.int (((31 : Int32) * (own_hk cs k)) + (cs.getD k 0))), .val (.ref tx), .val (.int (0 : Int32)), .val (.int (Int32.ofNat cs.length)), .val (.int (Int32.ofNat cs.length)), .val (.int ((Int32.ofNat k) + (1 : Int32)))]) rfl ?_
        refine XS.goto X.here hx rfl (pc0 := 32) (pc' := 8) rfl (hb hby d_jdk_48_method_5_code_32) (by decide) (by decide) ?_
        exact Steps.refl _)
      have e1 : Int32.ofNat k + (1 : Int32) = Int32.ofNat (k + 1) := (inc_ofNat k).symm
      have e2 : (31 : Int32) * own_hk cs k + cs.getD k 0 = own_hk cs (k + 1) := (own_hk1 hk).symm
      rw [e1, e2] at c7
      exact ih (k + 1) _ _ (by omega) (by omega) NN X eT c7
  obtain ⟨T9, l9, N9, X9, e9, c9⟩ := lp _ 0 _ _ rfl (Nat.zero_le _) N0 X0 e0 c2
  have c8 : Steps p.tables e below S0 (T9.setTop (mkF m 36 #[.val (.int (own_hk cs cs.length)), .val (.ref tx), .val (.int (0 : Int32)), .val (.int (Int32.ofNat cs.length)), .val (.int (Int32.ofNat cs.length)), .val (.int (Int32.ofNat cs.length))] [(.int (own_hk cs cs.length))])) := c9.trans (by
    show Steps p.tables e below (T9.setTop (mkF m 35 #[.val (.int (own_hk cs cs.length)), .val (.ref tx), .val (.int (0 : Int32)), .val (.int (Int32.ofNat cs.length)), .val (.int (Int32.ofNat cs.length)), .val (.int (Int32.ofNat cs.length))] [])) _
    refine XS.iloadN X9.here hx rfl (hb hby d_jdk_48_method_5_code_35) rfl ?_
    exact Steps.refl _)
  obtain ⟨fs, hr, hrun, hended, hW, hsame⟩ := X9.leave (v := some (.int (own_hk cs cs.length))) (fun h => by rw [Bd.returns] at h; cases h)
  refine ⟨_, _, c8.trans (retOut X9 hx Bd.returns rfl (Or.inl ⟨rfl, by simp, _, rfl⟩) (hb hby d_jdk_48_method_5_code_36) hr), hrun, hended, _, _, rfl, ?_, ⟨_, rfl⟩, hW, hsame.mono (by first | decide | exact Nat.le_of_ble_eq_true rfl) (by first | decide | exact Nat.le_of_ble_eq_true rfl)⟩
  show QInt Z (own_hash cs) h0 n0 _ T9.heap _
  rw [e9]
  exact ⟨rfl, N9, rfl⟩

theorem d_jdk_48_method_4_code_0 : decode jdk_48_method_4_code 0 = .ok (.iload 4, 2) := by decide +kernel
theorem d_jdk_48_method_4_code_2 : decode jdk_48_method_4_code 2 = .ok (.tableswitch 127 4 10 #[42, 55, 127, 127, 88, 101, 114], 42) := by decide +kernel
theorem d_jdk_48_method_4_code_44 : decode jdk_48_method_4_code 44 = .ok (.iload_n 3, 1) := by decide +kernel
theorem d_jdk_48_method_4_code_45 : decode jdk_48_method_4_code 45 = .ok (.aload_n 0, 1) := by decide +kernel
theorem d_jdk_48_method_4_code_46 : decode jdk_48_method_4_code 46 = .ok (.checkcast 60, 3) := by decide +kernel
theorem d_jdk_48_method_4_code_49 : decode jdk_48_method_4_code 49 = .ok (.iload_n 1, 1) := by decide +kernel
theorem d_jdk_48_method_4_code_50 : decode jdk_48_method_4_code 50 = .ok (.iload_n 2, 1) := by decide +kernel
theorem pd_oIaBIIcI : parseMethodDescriptor "(I[BII)I" = some ⟨[.int, (.array .byte), .int, .int], some .int⟩ := by decide +kernel
theorem d_jdk_48_method_4_code_51 : decode jdk_48_method_4_code 51 = .ok (.invokestatic 62, 3) := by decide +kernel
theorem d_jdk_48_method_4_code_54 : decode jdk_48_method_4_code 54 = .ok (.goto 103, 3) := by decide +kernel
theorem d_jdk_48_method_4_code_157 : decode jdk_48_method_4_code 157 = .ok (.ireturn, 1) := by decide +kernel
theorem ef_rmVec (m : MethodId) (x0 : Addr) (x1 : Int32) (x2 : Int32) (x3 : Int32) (x4 : Int32) : entryFrame m #[(.ref x0), (.int x1), (.int x2), (.int x3), (.int x4)] 5 = mkF m 0 #[.val (.ref x0), .val (.int x1), .val (.int x2), .val (.int x3), .val (.int x4)] [] := by first | (simp [entryFrame, mkF, argsToLocals, Value.category]; done) | rfl
set_option maxRecDepth 65536 in
set_option maxHeartbeats 40000000 in
theorem rmVec (l : Launch) (Z : State) (a0 : Array Value) (hw : ∀ d ∈ tables_1, d.before a0 Z = true) (ws : List Jvm.Cond) (tx : Addr) (kx : ClassId) (cs : List Int32) (h0 : Heap) (n0 : Nat) (Z0 : n0 ≤ h0.size) (Vx : Arv Z h0 tx kx .byte (Int32.ofNat cs.length) ((cs.map (fun c => c.toInt8.toInt32)).map Value.int) (.int 0)) (h8 : ∀ ch ∈ cs, C8 ch) (hl : cs.length ≤ 4000) (fk : Z.vm.findClass "[B" = some kx) :
    MetFree l (⟨"jdk/internal/util/ArraysSupport", "vectorizedHashCode", "(Ljava/lang/Object;IIII)I"⟩ : MethodName) (head1 (Jvm.Cond.code (⟨"jdk/internal/util/ArraysSupport", "vectorizedHashCode", "(Ljava/lang/Object;IIII)I"⟩ : MethodName) jdk_48_method_4_code 5 (some .int) :: ws) ({ frames := 1, cells := 0, slots := 0, locals := 17 } : Room)) (fun aa U => aa = #[(.ref tx), (.int (0 : Int32)), (.int (Int32.ofNat cs.length)), (.int (0 : Int32)), (.int (4 : Int32))] ∧ Z.Warmed39 U.vm ∧ U.heap = h0) (fun _ _ _ _ _ => True) (fun _ U o U' => ∃ v L, o = .returned v ∧ QInt Z (own_hash cs) h0 n0 v U'.heap L ∧ FrameEnd U o U' L ({ frames := 1, cells := 0, slots := 0, locals := 17 } : Room).cells ({ frames := 1, cells := 0, slots := 0, locals := 17 } : Room).slots) := by
  refine MetFree.of_bodySF (plainFor_of_name pn_jdk_internal_util_ArraysSupport) hisR ?_
  intro p e s m args below meth c s₁ Bd hml0 hP hK
  obtain ⟨rfl, hZ, hh⟩ := hP
  have hx := Bd.exec
  have hby := Bd.bytes
  have hml : c.maxLocals = 5 := hml0
  have hown : s.vm.findClass "jdk/internal/util/ArraysSupport" = some m.cls := findClass_of_methodNamed Bd.named
  have hnm := (name_of_methodNamed Bd.named Bd.method).1
  have X0 : Stand p l e ({ frames := 1, cells := 0, slots := 0, locals := 17 } : Room) s m #[(.ref tx), (.int (0 : Int32)), (.int (Int32.ofNat cs.length)), (.int (0 : Int32)), (.int (4 : Int32))] below meth c s₁ [] 0 0 := Stand.of_body Bd
  have e0 : s₁.heap = h0 := by rw [← hh, Bd.state]; rfl
  have N0 := Fr.nil n0
  have K0 := Keep.refl h0 []
  obtain ⟨S0, hS0⟩ : ∃ z, z = s₁.setTop (entryFrame m #[(.ref tx), (.int (0 : Int32)), (.int (Int32.ofNat cs.length)), (.int (0 : Int32)), (.int (4 : Int32))] 5) := ⟨_, rfl⟩
  rw [← hS0]
  have c0 : Steps p.tables e below S0 (s₁.setTop (mkF m 0 #[.val (.ref tx), .val (.int (0 : Int32)), .val (.int (Int32.ofNat cs.length)), .val (.int (0 : Int32)), .val (.int (4 : Int32))] [])) := by
    rw [hS0]; exact castTop (ef_rmVec m tx (0 : Int32) (Int32.ofNat cs.length) (0 : Int32) (4 : Int32)) (Steps.refl _)
  have c1 : Steps p.tables e below S0 (s₁.setTop (mkF m 46 #[.val (.ref tx), .val (.int (0 : Int32)), .val (.int (Int32.ofNat cs.length)), .val (.int (0 : Int32)), .val (.int (4 : Int32))] [(.ref tx), (.int (0 : Int32))])) := c0.trans (by
    show Steps p.tables e below (s₁.setTop (mkF m 0 #[.val (.ref tx), .val (.int (0 : Int32)), .val (.int (Int32.ofNat cs.length)), .val (.int (0 : Int32)), .val (.int (4 : Int32))] [])) _
    refine XS.iload X0.here hx rfl (hb hby d_jdk_48_method_4_code_0) rfl ?_
    refine XS.tswIn X0.here hx rfl (pc0 := 2) (pc' := 44) rfl (hb hby d_jdk_48_method_4_code_2) rfl (by decide) (o := 42) rfl (by decide) (by decide) ?_
    refine XS.iloadN X0.here hx rfl (hb hby d_jdk_48_method_4_code_44) rfl ?_
    refine XS.aloadN X0.here hx rfl (hb hby d_jdk_48_method_4_code_45) rfl rfl ?_
    exact Steps.refl _)
  obtain ⟨T2, X2, e2, st2⟩ := castY X0 hx hZ hown (hw _ (List.mem_of_getElem? (i := 79) rfl)) e0 (Ins.of_exa (own_exaB Vx fk) (hw _ (List.mem_of_getElem? (i := 80) rfl))) (g := (mkF m 46 #[.val (.ref tx), .val (.int (0 : Int32)), .val (.int (Int32.ofNat cs.length)), .val (.int (0 : Int32)), .val (.int (4 : Int32))] [(.ref tx), (.int (0 : Int32))])) rfl rfl (hb hby d_jdk_48_method_4_code_46)
  have c3 : Steps p.tables e below S0 (T2.setTop (mkF m 49 #[.val (.ref tx), .val (.int (0 : Int32)), .val (.int (Int32.ofNat cs.length)), .val (.int (0 : Int32)), .val (.int (4 : Int32))] [(.ref tx), (.int (0 : Int32))])) := c1.trans (st2 _ (Steps.refl _))
  have c4 : Steps p.tables e below S0 (T2.setTop (mkF m 51 #[.val (.ref tx), .val (.int (0 : Int32)), .val (.int (Int32.ofNat cs.length)), .val (.int (0 : Int32)), .val (.int (4 : Int32))] [(.int (Int32.ofNat cs.length)), (.int (0 : Int32)), (.ref tx), (.int (0 : Int32))])) := c3.trans (by
    show Steps p.tables e below (T2.setTop (mkF m 49 #[.val (.ref tx), .val (.int (0 : Int32)), .val (.int (Int32.ofNat cs.length)), .val (.int (0 : Int32)), .val (.int (4 : Int32))] [(.ref tx), (.int (0 : Int32))])) _
    refine XS.iloadN X2.here hx rfl (hb hby d_jdk_48_method_4_code_49) rfl ?_
    refine XS.iloadN X2.here hx rfl (hb hby d_jdk_48_method_4_code_50) rfl ?_
    exact Steps.refl _)
  obtain ⟨_, _, ⟨T5, L5, kk5, nn5⟩, -, X5, ⟨Lc5, hQ5, l5, y5, z5⟩, st5⟩ := Jvm.LawKit.callS X2 hx (y := (⟨"jdk/internal/util/ArraysSupport", "signedHashCode", "(I[BII)I"⟩ : MethodName)) hown (mvT hZ (hw _ (List.mem_of_getElem? (i := 81) rfl))) (mvT hZ (hw _ (List.mem_of_getElem? (i := 82) rfl))) (mvT hZ (hw _ (List.mem_of_getElem? (i := 77) rfl))) (mvT hZ (hw _ (List.mem_of_getElem? (i := 83) rfl))) (by decide) (backOf (W := 0) (rmSgn l Z a0 hw [] tx kx cs h0 n0 Z0 Vx h8 hl) hZ (hw _ (List.mem_of_getElem? (i := 83) rfl)) (hw _ (List.mem_of_getElem? (i := 77) rfl)) (by decide) (by decide)) (g := (mkF m 51 #[.val (.ref tx), .val (.int (0 : Int32)), .val (.int (Int32.ofNat cs.length)), .val (.int (0 : Int32)), .val (.int (4 : Int32))] [(.int (Int32.ofNat cs.length)), (.int (0 : Int32)), (.ref tx), (.int (0 : Int32))])) rfl (by rw [hml]; rfl) (argsL := [(.int (0 : Int32)), (.ref tx), (.int (0 : Int32)), (.int (Int32.ofNat cs.length))]) (rest := []) (lenOf pd_oIaBIIcI rfl) rfl (by show 2 * 0 + _ ≤ _; exact Nat.le_of_eq rfl) (hb hby d_jdk_48_method_4_code_51) (fun _ _ => ⟨rfl, e2, (by decide : 0 + 0 ≤ _), (by decide : 0 + 0 ≤ _)⟩)
  dsimp only [Pt.U, Pt.locs, Pt.cells, Pt.slots] at X5 l5 y5 z5 st5 hQ5
  subst l5 y5 z5
  obtain ⟨rfl, Nq5, eq5⟩ := hQ5
  have c6 : Steps p.tables e below S0 (T5.setTop (mkF m 54 #[.val (.ref tx), .val (.int (0 : Int32)), .val (.int (Int32.ofNat cs.length)), .val (.int (0 : Int32)), .val (.int (4 : Int32))] [(.int (own_hash cs))])) := c4.trans (st5 _ (Steps.refl _))
  have N5 := Fr.app N0 Nq5
  have c7 : Steps p.tables e below S0 (T5.setTop (mkF m 157 #[.val (.ref tx), .val (.int (0 : Int32)), .val (.int (Int32.ofNat cs.length)), .val (.int (0 : Int32)), .val (.int (4 : Int32))] [(.int (own_hash cs))])) := c6.trans (by
    show Steps p.tables e below (T5.setTop (mkF m 54 #[.val (.ref tx), .val (.int (0 : Int32)), .val (.int (Int32.ofNat cs.length)), .val (.int (0 : Int32)), .val (.int (4 : Int32))] [(.int (own_hash cs))])) _
    refine XS.goto X5.here hx rfl (pc0 := 54) (pc' := 157) rfl (hb hby d_jdk_48_method_4_code_54) (by decide) (by decide) ?_
    exact Steps.refl _)
  obtain ⟨fs, hr, hrun, hended, hW, hsame⟩ := X5.leave (v := some (.int (own_hash cs))) (fun h => by rw [Bd.returns] at h; cases h)
  refine ⟨_, _, c7.trans (retOut X5 hx Bd.returns rfl (Or.inl ⟨rfl, by simp, _, rfl⟩) (hb hby d_jdk_48_method_4_code_157) hr), hrun, hended, _, _, rfl, ?_, ⟨_, rfl⟩, hW, hsame.mono (by first | decide | exact Nat.le_of_ble_eq_true rfl) (by first | decide | exact Nat.le_of_ble_eq_true rfl)⟩
  show QInt Z (own_hash cs) h0 n0 _ T5.heap _
  rw [eq5]
  exact ⟨rfl, N5, rfl⟩

theorem own_miss {n : Nat} (h : 2 ≤ n) (h4 : n ≤ 4000) : (#[((0 : Int), (26 : Int)), (1, 30)] : Array (Int × Int)).find? (·.1 == (Int32.ofNat n).toInt) = none := by
  rw [own_ofN (by omega)]
  exact find_miss (by
    intro p hp
    simp at hp
    rcases hp with rfl | rfl
    · show (0 : Int) ≠ n; omega
    · show (1 : Int) ≠ n; omega)

theorem d_jdk_43_method_21_code_0 : decode jdk_43_method_21_code 0 = .ok (.aload_n 0, 1) := by decide +kernel
theorem d_jdk_43_method_21_code_1 : decode jdk_43_method_21_code 1 = .ok (.arraylength, 1) := by decide +kernel
theorem d_jdk_43_method_21_code_2 : decode jdk_43_method_21_code 2 = .ok (.lookupswitch 40 #[(0, 26), (1, 30)], 26) := by decide +kernel
theorem d_jdk_43_method_21_code_28 : decode jdk_43_method_21_code 28 = .ok (.iconst 0, 1) := by decide +kernel
theorem d_jdk_43_method_21_code_29 : decode jdk_43_method_21_code 29 = .ok (.goto 22, 3) := by decide +kernel
theorem d_jdk_43_method_21_code_51 : decode jdk_43_method_21_code 51 = .ok (.ireturn, 1) := by decide +kernel
theorem d_jdk_43_method_21_code_32 : decode jdk_43_method_21_code 32 = .ok (.aload_n 0, 1) := by decide +kernel
theorem d_jdk_43_method_21_code_33 : decode jdk_43_method_21_code 33 = .ok (.iconst 0, 1) := by decide +kernel
theorem d_jdk_43_method_21_code_34 : decode jdk_43_method_21_code 34 = .ok (.baload, 1) := by decide +kernel
theorem d_jdk_43_method_21_code_35 : decode jdk_43_method_21_code 35 = .ok (.sipush 255, 3) := by decide +kernel
theorem d_jdk_43_method_21_code_38 : decode jdk_43_method_21_code 38 = .ok (.iand, 1) := by decide +kernel
theorem d_jdk_43_method_21_code_39 : decode jdk_43_method_21_code 39 = .ok (.goto 12, 3) := by decide +kernel
theorem d_jdk_43_method_21_code_42 : decode jdk_43_method_21_code 42 = .ok (.aload_n 0, 1) := by decide +kernel
theorem d_jdk_43_method_21_code_43 : decode jdk_43_method_21_code 43 = .ok (.iconst 0, 1) := by decide +kernel
theorem d_jdk_43_method_21_code_44 : decode jdk_43_method_21_code 44 = .ok (.aload_n 0, 1) := by decide +kernel
theorem d_jdk_43_method_21_code_45 : decode jdk_43_method_21_code 45 = .ok (.arraylength, 1) := by decide +kernel
theorem d_jdk_43_method_21_code_46 : decode jdk_43_method_21_code 46 = .ok (.iconst 0, 1) := by decide +kernel
theorem d_jdk_43_method_21_code_47 : decode jdk_43_method_21_code 47 = .ok (.iconst 4, 1) := by decide +kernel
theorem pd_oLjavaslangsObjecteIIIIcI : parseMethodDescriptor "(Ljava/lang/Object;IIII)I" = some ⟨[(.object "java/lang/Object"), .int, .int, .int, .int], some .int⟩ := by decide +kernel
theorem d_jdk_43_method_21_code_48 : decode jdk_43_method_21_code 48 = .ok (.invokestatic 84, 3) := by decide +kernel
theorem pn_java_lang_StringLatin1 : plainName "java/lang/StringLatin1" = true := by first | (simp [plainName, overriddenIn]; done) | decide +kernel
theorem ef_rmLH (m : MethodId) (x0 : Addr) : entryFrame m #[(.ref x0)] 1 = mkF m 0 #[.val (.ref x0)] [] := by first | (simp [entryFrame, mkF, argsToLocals, Value.category]; done) | rfl
set_option maxRecDepth 65536 in
set_option maxHeartbeats 40000000 in
theorem rmLH (l : Launch) (Z : State) (a0 : Array Value) (hw : ∀ d ∈ tables_1, d.before a0 Z = true) (ws : List Jvm.Cond) (tx : Addr) (kx : ClassId) (cs : List Int32) (h0 : Heap) (n0 : Nat) (Z0 : n0 ≤ h0.size) (Vx : Arv Z h0 tx kx .byte (Int32.ofNat cs.length) ((cs.map (fun c => c.toInt8.toInt32)).map Value.int) (.int 0)) (h8 : ∀ ch ∈ cs, C8 ch) (hl : cs.length ≤ 4000) (fk : 2 ≤ cs.length → Z.vm.findClass "[B" = some kx) :
    MetFree l (⟨"java/lang/StringLatin1", "hashCode", "([B)I"⟩ : MethodName) (head1 (Jvm.Cond.code (⟨"java/lang/StringLatin1", "hashCode", "([B)I"⟩ : MethodName) jdk_43_method_21_code 1 (some .int) :: ws) ({ frames := 2, cells := 0, slots := 0, locals := 33 } : Room)) (fun aa U => aa = #[(.ref tx)] ∧ Z.Warmed39 U.vm ∧ U.heap = h0) (fun _ _ _ _ _ => True) (fun _ U o U' => ∃ v L, o = .returned v ∧ QInt Z (own_hash cs) h0 n0 v U'.heap L ∧ FrameEnd U o U' L ({ frames := 2, cells := 0, slots := 0, locals := 33 } : Room).cells ({ frames := 2, cells := 0, slots := 0, locals := 33 } : Room).slots) := by
  refine MetFree.of_bodySF (plainFor_of_name pn_java_lang_StringLatin1) hisR ?_
  intro p e s m args below meth c s₁ Bd hml0 hP hK
  obtain ⟨rfl, hZ, hh⟩ := hP
  have hx := Bd.exec
  have hby := Bd.bytes
  have hml : c.maxLocals = 1 := hml0
  have hown : s.vm.findClass "java/lang/StringLatin1" = some m.cls := findClass_of_methodNamed Bd.named
  have hnm := (name_of_methodNamed Bd.named Bd.method).1
  have X0 : Stand p l e ({ frames := 2, cells := 0, slots := 0, locals := 33 } : Room) s m #[(.ref tx)] below meth c s₁ [] 0 0 := Stand.of_body Bd
  have e0 : s₁.heap = h0 := by rw [← hh, Bd.state]; rfl
  have N0 := Fr.nil n0
  have K0 := Keep.refl h0 []
  obtain ⟨S0, hS0⟩ : ∃ z, z = s₁.setTop (entryFrame m #[(.ref tx)] 1) := ⟨_, rfl⟩
  rw [← hS0]
  have c0 : Steps p.tables e below S0 (s₁.setTop (mkF m 0 #[.val (.ref tx)] [])) := by
    rw [hS0]; exact castTop (ef_rmLH m tx) (Steps.refl _)
  have c1 : Steps p.tables e below S0 (s₁.setTop (mkF m 1 #[.val (.ref tx)] [(.ref tx)])) := c0.trans (by
    show Steps p.tables e below (s₁.setTop (mkF m 0 #[.val (.ref tx)] [])) _
    refine XS.aloadN X0.here hx rfl (hb hby d_jdk_43_method_21_code_0) rfl rfl ?_
    exact Steps.refl _)
  obtain ⟨cl2, Ar2, -, S2, Nn2, -, -⟩ := id Vx
  have c3 : Steps p.tables e below S0 (s₁.setTop (mkF m 2 #[.val (.ref tx)] [(.int (Int32.ofNat cs.length))])) := c1.trans (by
    show Steps p.tables e below (s₁.setTop (mkF m 1 #[.val (.ref tx)] [(.ref tx)])) _
    refine X0.arraylength hx (by rw [e0]; exact Ar2.1) (State.isArrayOf_alike hZ.alike Ar2.2.1) (g := (mkF m 1 #[.val (.ref tx)] [(.ref tx)])) rfl rfl (hb hby d_jdk_43_method_21_code_1) _ ?_
    rw [len_of S2 Nn2]
    exact Steps.refl _)
  rcases (by omega : cs.length = 0 ∨ cs.length = 1 ∨ 2 ≤ cs.length) with e3 | e3 | e3
  · rw [(show Int32.ofNat cs.length = (0 : Int32) by rw [e3]; rfl)] at c3
    have c4 : Steps p.tables e below S0 (s₁.setTop (mkF m 51 #[.val (.ref tx)] [(.int (0 : Int32))])) := c3.trans (by
      show Steps p.tables e below (s₁.setTop (mkF m 2 #[.val (.ref tx)] [(.int (0 : Int32))])) _
      refine X0.lookupswitchHit hx (g := (mkF m 2 #[.val (.ref tx)] [(.int (0 : Int32))])) rfl rfl (hb hby d_jdk_43_method_21_code_2) (by decide) (a := 0) (off := 26) (by decide) (by show (0 : Int) ≤ ((2 : Nat) : Int) + 26; decide) _ ?_
      show Steps p.tables e below (s₁.setTop (mkF m 28 #[.val (.ref tx)] [])) _
      refine XS.iconst X0.here hx rfl (hb hby d_jdk_43_method_21_code_28) ?_
      refine XS.goto X0.here hx rfl (pc0 := 29) (pc' := 51) rfl (hb hby d_jdk_43_method_21_code_29) (by decide) (by decide) ?_
      exact Steps.refl _)
    obtain ⟨fs, hr, hrun, hended, hW, hsame⟩ := X0.leave (v := some (.int (0 : Int32))) (fun h => by rw [Bd.returns] at h; cases h)
    refine ⟨_, _, c4.trans (retOut X0 hx Bd.returns rfl (Or.inl ⟨rfl, by simp, _, rfl⟩) (hb hby d_jdk_43_method_21_code_51) hr), hrun, hended, _, _, rfl, ?_, ⟨_, rfl⟩, hW, hsame.mono (by first | decide | exact Nat.le_of_ble_eq_true rfl) (by first | decide | exact Nat.le_of_ble_eq_true rfl)⟩
    show QInt Z (own_hash cs) h0 n0 _ s₁.heap _
    rw [e0]
    exact ⟨by rw [own_h0 e3], N0, rfl⟩
  · rw [(show Int32.ofNat cs.length = (1 : Int32) by rw [e3]; rfl)] at c3
    have c5 : Steps p.tables e below S0 (s₁.setTop (mkF m 34 #[.val (.ref tx)] [(.int (0 : Int32)), (.ref tx)])) := c3.trans (by
      show Steps p.tables e below (s₁.setTop (mkF m 2 #[.val (.ref tx)] [(.int (1 : Int32))])) _
      refine X0.lookupswitchHit hx (g := (mkF m 2 #[.val (.ref tx)] [(.int (1 : Int32))])) rfl rfl (hb hby d_jdk_43_method_21_code_2) (by decide) (a := 1) (off := 30) (by decide) (by show (0 : Int) ≤ ((2 : Nat) : Int) + 30; decide) _ ?_
      show Steps p.tables e below (s₁.setTop (mkF m 32 #[.val (.ref tx)] [])) _
      refine XS.aloadN X0.here hx rfl (hb hby d_jdk_43_method_21_code_32) rfl rfl ?_
      refine XS.iconst X0.here hx rfl (hb hby d_jdk_43_method_21_code_33) ?_
      exact Steps.refl _)
    have hk : 0 < cs.length := by omega
    obtain ⟨cl6, Ar6, -, S6, -, Ha6, -⟩ := id Vx
    have hin6 := inb_of (j := (0 : Int32)) S6 (own_idx (a := 0) (m := cs.length) hk (by omega))
    have hat6 := Ha6.at hin6 (own_getb (k := 0) hk (by omega))
    have c7 : Steps p.tables e below S0 (s₁.setTop (mkF m 39 #[.val (.ref tx)] [(.int (((cs.getD 0 0).toInt8.toInt32) &&& (255 : Int32)))])) := c5.trans (by
      show Steps p.tables e below (s₁.setTop (mkF m 34 #[.val (.ref tx)] [(.int (0 : Int32)), (.ref tx)])) _
      refine X0.baloadBytes hx (j := (0 : Int32)) (v := (.int ((cs.getD 0 0).toInt8.toInt32))) (by rw [e0]; exact Ar6.1) (State.isArrayOf_alike hZ.alike Ar6.2.1) Ar6.2.2 hin6 hat6 (g := (mkF m 34 #[.val (.ref tx)] [(.int (0 : Int32)), (.ref tx)])) rfl rfl (hb hby d_jdk_43_method_21_code_34) _ ?_
      refine XS.sipush X0.here hx rfl (hb hby d_jdk_43_method_21_code_35) ?_
      refine XS.iand X0.here hx rfl (hb hby d_jdk_43_method_21_code_38) rfl ?_
      exact Steps.refl _)
    have c8 := own_get8 h8 hk
    have em : (cs.getD 0 0).toInt8.toInt32 &&& (255 : Int32) = cs.getD 0 0 := StrChars.lo8_mask c8.1 c8.2
    rw [em] at c7
    have c8 : Steps p.tables e below S0 (s₁.setTop (mkF m 51 #[.val (.ref tx)] [(.int (cs.getD 0 0))])) := c7.trans (by
      show Steps p.tables e below (s₁.setTop (mkF m 39 #[.val (.ref tx)] [(.int (cs.getD 0 0))])) _
      refine XS.goto X0.here hx rfl (pc0 := 39) (pc' := 51) rfl (hb hby d_jdk_43_method_21_code_39) (by decide) (by decide) ?_
      exact Steps.refl _)
    obtain ⟨fs, hr, hrun, hended, hW, hsame⟩ := X0.leave (v := some (.int (cs.getD 0 0))) (fun h => by rw [Bd.returns] at h; cases h)
    refine ⟨_, _, c8.trans (retOut X0 hx Bd.returns rfl (Or.inl ⟨rfl, by simp, _, rfl⟩) (hb hby d_jdk_43_method_21_code_51) hr), hrun, hended, _, _, rfl, ?_, ⟨_, rfl⟩, hW, hsame.mono (by first | decide | exact Nat.le_of_ble_eq_true rfl) (by first | decide | exact Nat.le_of_ble_eq_true rfl)⟩
    show QInt Z (own_hash cs) h0 n0 _ s₁.heap _
    rw [e0]
    exact ⟨by rw [own_h1 e3], N0, rfl⟩
  · have c9 : Steps p.tables e below S0 (s₁.setTop (mkF m 45 #[.val (.ref tx)] [(.ref tx), (.int (0 : Int32)), (.ref tx)])) := c3.trans (by
      show Steps p.tables e below (s₁.setTop (mkF m 2 #[.val (.ref tx)] [(.int (Int32.ofNat cs.length))])) _
      refine X0.lookupswitchMiss hx (g := (mkF m 2 #[.val (.ref tx)] [(.int (Int32.ofNat cs.length))])) rfl rfl (hb hby d_jdk_43_method_21_code_2) (by decide) (own_miss e3 hl) (by show (0 : Int) ≤ ((2 : Nat) : Int) + 40; decide) _ ?_
      show Steps p.tables e below (s₁.setTop (mkF m 42 #[.val (.ref tx)] [])) _
      refine XS.aloadN X0.here hx rfl (hb hby d_jdk_43_method_21_code_42) rfl rfl ?_
      refine XS.iconst X0.here hx rfl (hb hby d_jdk_43_method_21_code_43) ?_
      refine XS.aloadN X0.here hx rfl (hb hby d_jdk_43_method_21_code_44) rfl rfl ?_
      exact Steps.refl _)
    obtain ⟨cl10, Ar10, -, S10, Nn10, -, -⟩ := id Vx
    have c11 : Steps p.tables e below S0 (s₁.setTop (mkF m 48 #[.val (.ref tx)] [(.int (4 : Int32)), (.int (0 : Int32)), (.int (Int32.ofNat cs.length)), (.int (0 : Int32)), (.ref tx)])) := c9.trans (by
      show Steps p.tables e below (s₁.setTop (mkF m 45 #[.val (.ref tx)] [(.ref tx), (.int (0 : Int32)), (.ref tx)])) _
      refine X0.arraylength hx (by rw [e0]; exact Ar10.1) (State.isArrayOf_alike hZ.alike Ar10.2.1) (g := (mkF m 45 #[.val (.ref tx)] [(.ref tx), (.int (0 : Int32)), (.ref tx)])) rfl rfl (hb hby d_jdk_43_method_21_code_45) _ ?_
      rw [len_of S10 Nn10]
      refine XS.iconst X0.here hx rfl (hb hby d_jdk_43_method_21_code_46) ?_
      refine XS.iconst X0.here hx rfl (hb hby d_jdk_43_method_21_code_47) ?_
      exact Steps.refl _)
    obtain ⟨_, _, ⟨T12, L12, kk12, nn12⟩, -, X12, ⟨Lc12, hQ12, l12, y12, z12⟩, st12⟩ := Jvm.LawKit.callS X0 hx (y := (⟨"jdk/internal/util/ArraysSupport", "vectorizedHashCode", "(Ljava/lang/Object;IIII)I"⟩ : MethodName)) hown (mvT hZ (hw _ (List.mem_of_getElem? (i := 75) rfl))) (mvT hZ (hw _ (List.mem_of_getElem? (i := 76) rfl))) (mvT hZ (hw _ (List.mem_of_getElem? (i := 77) rfl))) (mvT hZ (hw _ (List.mem_of_getElem? (i := 78) rfl))) (by decide) (backOf (W := 0) (rmVec l Z a0 hw [] tx kx cs h0 n0 Z0 Vx h8 hl (fk e3)) hZ (hw _ (List.mem_of_getElem? (i := 78) rfl)) (hw _ (List.mem_of_getElem? (i := 77) rfl)) (by decide) (by decide)) (g := (mkF m 48 #[.val (.ref tx)] [(.int (4 : Int32)), (.int (0 : Int32)), (.int (Int32.ofNat cs.length)), (.int (0 : Int32)), (.ref tx)])) rfl (by rw [hml]; rfl) (argsL := [(.ref tx), (.int (0 : Int32)), (.int (Int32.ofNat cs.length)), (.int (0 : Int32)), (.int (4 : Int32))]) (rest := []) (lenOf pd_oLjavaslangsObjecteIIIIcI rfl) rfl (by show 2 * 0 + _ ≤ _; exact Nat.le_of_eq rfl) (hb hby d_jdk_43_method_21_code_48) (fun _ _ => ⟨rfl, e0, (by decide : 0 + 0 ≤ _), (by decide : 0 + 0 ≤ _)⟩)
    dsimp only [Pt.U, Pt.locs, Pt.cells, Pt.slots] at X12 l12 y12 z12 st12 hQ12
    subst l12 y12 z12
    obtain ⟨rfl, Nq12, eq12⟩ := hQ12
    have c13 : Steps p.tables e below S0 (T12.setTop (mkF m 51 #[.val (.ref tx)] [(.int (own_hash cs))])) := c11.trans (st12 _ (Steps.refl _))
    have N12 := Fr.app N0 Nq12
    obtain ⟨fs, hr, hrun, hended, hW, hsame⟩ := X12.leave (v := some (.int (own_hash cs))) (fun h => by rw [Bd.returns] at h; cases h)
    refine ⟨_, _, c13.trans (retOut X12 hx Bd.returns rfl (Or.inl ⟨rfl, by simp, _, rfl⟩) (hb hby d_jdk_43_method_21_code_51) hr), hrun, hended, _, _, rfl, ?_, ⟨_, rfl⟩, hW, hsame.mono (by first | decide | exact Nat.le_of_ble_eq_true rfl) (by first | decide | exact Nat.le_of_ble_eq_true rfl)⟩
    show QInt Z (own_hash cs) h0 n0 _ T12.heap _
    rw [eq12]
    exact ⟨rfl, N12, rfl⟩

theorem d_jdk_42_method_154_code_0 : decode jdk_42_method_154_code 0 = .ok (.getstatic 38, 3) := by decide +kernel
theorem d_jdk_42_method_154_code_3 : decode jdk_42_method_154_code 3 = .ok (.ifCond .eq 14, 3) := by decide +kernel
theorem d_jdk_42_method_154_code_6 : decode jdk_42_method_154_code 6 = .ok (.aload_n 0, 1) := by decide +kernel
theorem d_jdk_42_method_154_code_7 : decode jdk_42_method_154_code 7 = .ok (.getfield 15, 3) := by decide +kernel
theorem d_jdk_42_method_154_code_10 : decode jdk_42_method_154_code 10 = .ok (.ifCond .ne 7, 3) := by decide +kernel
theorem d_jdk_42_method_154_code_13 : decode jdk_42_method_154_code 13 = .ok (.iconst 1, 1) := by decide +kernel
theorem d_jdk_42_method_154_code_14 : decode jdk_42_method_154_code 14 = .ok (.goto 4, 3) := by decide +kernel
theorem d_jdk_42_method_154_code_18 : decode jdk_42_method_154_code 18 = .ok (.ireturn, 1) := by decide +kernel
theorem pn_java_lang_String : plainName "java/lang/String" = true := by first | (simp [plainName, overriddenIn]; done) | decide +kernel
theorem ef_rmIL (m : MethodId) (x0 : Addr) : entryFrame m #[(.ref x0)] 1 = mkF m 0 #[.val (.ref x0)] [] := by first | (simp [entryFrame, mkF, argsToLocals, Value.category]; done) | rfl
set_option maxRecDepth 65536 in
set_option maxHeartbeats 40000000 in
theorem rmIL (l : Launch) (Z : State) (a0 : Array Value) (hw : ∀ d ∈ tables_1, d.before a0 Z = true) (ws : List Jvm.Cond) (sx : Addr) (G1 : Int32) (h0 : Heap) (n0 : Nat) (Z0 : n0 ≤ h0.size) (Fc : Fld Z h0 sx "java/lang/String" "coder" "B" (.int 0)) (O2 : Sta Z Z.heap "java/lang/String" "COMPACT_STRINGS" "Z" (.int G1)) (P5 : ¬ G1 = 0) (X00 : Old Z n0 h0) :
    MetFree l (⟨"java/lang/String", "isLatin1", "()Z"⟩ : MethodName) (head1 (Jvm.Cond.code (⟨"java/lang/String", "isLatin1", "()Z"⟩ : MethodName) jdk_42_method_154_code 1 (some .boolean) :: ws) ({ frames := 0, cells := 0, slots := 0, locals := 0 } : Room)) (fun aa U => aa = #[(.ref sx)] ∧ Z.Warmed39 U.vm ∧ U.heap = h0) (fun _ _ _ _ _ => True) (fun _ U o U' => ∃ v L, o = .returned v ∧ QInt Z 1 h0 n0 v U'.heap L ∧ FrameEnd U o U' L ({ frames := 0, cells := 0, slots := 0, locals := 0 } : Room).cells ({ frames := 0, cells := 0, slots := 0, locals := 0 } : Room).slots) := by
  refine MetFree.of_bodySF (plainFor_of_name pn_java_lang_String) hisR ?_
  intro p e s m args below meth c s₁ Bd hml0 hP hK
  obtain ⟨rfl, hZ, hh⟩ := hP
  have hx := Bd.exec
  have hby := Bd.bytes
  have hml : c.maxLocals = 1 := hml0
  have hown : s.vm.findClass "java/lang/String" = some m.cls := findClass_of_methodNamed Bd.named
  have hnm := (name_of_methodNamed Bd.named Bd.method).1
  have X0 : Stand p l e ({ frames := 0, cells := 0, slots := 0, locals := 0 } : Room) s m #[(.ref sx)] below meth c s₁ [] 0 0 := Stand.of_body Bd
  have e0 : s₁.heap = h0 := by rw [← hh, Bd.state]; rfl
  have N0 := Fr.nil n0
  have K0 := Keep.refl h0 []
  obtain ⟨S0, hS0⟩ : ∃ z, z = s₁.setTop (entryFrame m #[(.ref sx)] 1) := ⟨_, rfl⟩
  rw [← hS0]
  have c0 : Steps p.tables e below S0 (s₁.setTop (mkF m 0 #[.val (.ref sx)] [])) := by
    rw [hS0]; exact castTop (ef_rmIL m sx) (Steps.refl _)
  obtain ⟨T1, X1, e1, st1⟩ := getS2 X0 hx hZ hown (host := "") (Or.inl (hw _ (List.mem_of_getElem? (i := 26) rfl))) Via.refl e0 (O2.ext X00.2) (g := (mkF m 0 #[.val (.ref sx)] [])) rfl (hb hby d_jdk_42_method_154_code_0)
  have c2 : Steps p.tables e below S0 (T1.setTop (mkF m 3 #[.val (.ref sx)] [(.int G1)])) := c0.trans (st1 _ (Steps.refl _))
  have c3 : Steps p.tables e below S0 (T1.setTop (mkF m 7 #[.val (.ref sx)] [(.ref sx)])) := c2.trans (by
    show Steps p.tables e below (T1.setTop (mkF m 3 #[.val (.ref sx)] [(.int G1)])) _
    refine XS.ifNo X1.here hx rfl (hb hby d_jdk_42_method_154_code_3) rfl ((if0 _ _).trans (feq P5).1) ?_
    refine XS.aloadN X1.here hx rfl (hb hby d_jdk_42_method_154_code_6) rfl rfl ?_
    exact Steps.refl _)
  obtain ⟨T4, X4, e4, st4⟩ := getF X1 hx hZ hown (host := "") (Or.inl (hw _ (List.mem_of_getElem? (i := 25) rfl))) Via.refl e1 Fc (g := (mkF m 7 #[.val (.ref sx)] [(.ref sx)])) rfl rfl (hb hby d_jdk_42_method_154_code_7)
  have c5 : Steps p.tables e below S0 (T4.setTop (mkF m 10 #[.val (.ref sx)] [(.int (0 : Int32))])) := c3.trans (st4 _ (Steps.refl _))
  have c6 : Steps p.tables e below S0 (T4.setTop (mkF m 18 #[.val (.ref sx)] [(.int (1 : Int32))])) := c5.trans (by
    show Steps p.tables e below (T4.setTop (mkF m 10 #[.val (.ref sx)] [(.int (0 : Int32))])) _
    refine XS.ifNo X4.here hx rfl (hb hby d_jdk_42_method_154_code_10) rfl ((if0 _ _).trans (teq (by decide : ((0 : Int32) = (0 : Int32)))).2) ?_
    refine XS.iconst X4.here hx rfl (hb hby d_jdk_42_method_154_code_13) ?_
    refine XS.goto X4.here hx rfl (pc0 := 14) (pc' := 18) rfl (hb hby d_jdk_42_method_154_code_14) (by decide) (by decide) ?_
    exact Steps.refl _)
  obtain ⟨fs, hr, hrun, hended, hW, hsame⟩ := X4.leave (v := some (.int (1 : Int32))) (fun h => by rw [Bd.returns] at h; cases h)
  refine ⟨_, _, c6.trans (retOut X4 hx Bd.returns rfl (Or.inl ⟨rfl, by simp, _, rfl⟩) (hb hby d_jdk_42_method_154_code_18) hr), hrun, hended, _, _, rfl, ?_, ⟨_, rfl⟩, hW, hsame.mono (by first | decide | exact Nat.le_of_ble_eq_true rfl) (by first | decide | exact Nat.le_of_ble_eq_true rfl)⟩
  show QInt Z 1 h0 n0 _ T4.heap _
  rw [e4]
  exact ⟨rfl, N0, rfl⟩

def QHC (Z : State) (sx tx : Addr) (kx : ClassId) (cs : List Int32) (h0 : Heap) (n0 : Nat) (v : Option Value) (h : Heap) (L : List Loc) : Prop := v = some (.int (own_hash cs)) ∧ Fr n0 L ∧ Keep h0 h [sx] ∧ OStr Z h sx tx kx cs

theorem d_jdk_42_method_78_code_0 : decode jdk_42_method_78_code 0 = .ok (.aload_n 0, 1) := by decide +kernel
theorem d_jdk_42_method_78_code_1 : decode jdk_42_method_78_code 1 = .ok (.getfield 19, 3) := by decide +kernel
theorem d_jdk_42_method_78_code_4 : decode jdk_42_method_78_code 4 = .ok (.istore_n 1, 1) := by decide +kernel
theorem d_jdk_42_method_78_code_5 : decode jdk_42_method_78_code 5 = .ok (.iload_n 1, 1) := by decide +kernel
theorem d_jdk_42_method_78_code_6 : decode jdk_42_method_78_code 6 = .ok (.ifCond .ne 52, 3) := by decide +kernel
theorem d_jdk_42_method_78_code_9 : decode jdk_42_method_78_code 9 = .ok (.aload_n 0, 1) := by decide +kernel
theorem d_jdk_42_method_78_code_10 : decode jdk_42_method_78_code 10 = .ok (.getfield 23, 3) := by decide +kernel
theorem d_jdk_42_method_78_code_13 : decode jdk_42_method_78_code 13 = .ok (.ifCond .ne 45, 3) := by decide +kernel
theorem d_jdk_42_method_78_code_16 : decode jdk_42_method_78_code 16 = .ok (.aload_n 0, 1) := by decide +kernel
theorem pd_ocZ : parseMethodDescriptor "()Z" = some ⟨[], some .boolean⟩ := by decide +kernel
theorem d_jdk_42_method_78_code_17 : decode jdk_42_method_78_code 17 = .ok (.invokevirtual 492, 3) := by decide +kernel
theorem d_jdk_42_method_78_code_20 : decode jdk_42_method_78_code 20 = .ok (.ifCond .eq 13, 3) := by decide +kernel
theorem d_jdk_42_method_78_code_23 : decode jdk_42_method_78_code 23 = .ok (.aload_n 0, 1) := by decide +kernel
theorem d_jdk_42_method_78_code_24 : decode jdk_42_method_78_code 24 = .ok (.getfield 9, 3) := by decide +kernel
theorem pd_oaBcI : parseMethodDescriptor "([B)I" = some ⟨[(.array .byte)], some .int⟩ := by decide +kernel
theorem d_jdk_42_method_78_code_27 : decode jdk_42_method_78_code 27 = .ok (.invokestatic 628, 3) := by decide +kernel
theorem d_jdk_42_method_78_code_30 : decode jdk_42_method_78_code 30 = .ok (.goto 10, 3) := by decide +kernel
theorem d_jdk_42_method_78_code_40 : decode jdk_42_method_78_code 40 = .ok (.istore_n 1, 1) := by decide +kernel
theorem d_jdk_42_method_78_code_41 : decode jdk_42_method_78_code 41 = .ok (.iload_n 1, 1) := by decide +kernel
theorem d_jdk_42_method_78_code_42 : decode jdk_42_method_78_code 42 = .ok (.ifCond .ne 11, 3) := by decide +kernel
theorem d_jdk_42_method_78_code_45 : decode jdk_42_method_78_code 45 = .ok (.aload_n 0, 1) := by decide +kernel
theorem d_jdk_42_method_78_code_46 : decode jdk_42_method_78_code 46 = .ok (.iconst 1, 1) := by decide +kernel
theorem d_jdk_42_method_78_code_47 : decode jdk_42_method_78_code 47 = .ok (.putfield 23, 3) := by decide +kernel
theorem d_jdk_42_method_78_code_50 : decode jdk_42_method_78_code 50 = .ok (.goto 8, 3) := by decide +kernel
theorem d_jdk_42_method_78_code_58 : decode jdk_42_method_78_code 58 = .ok (.iload_n 1, 1) := by decide +kernel
theorem d_jdk_42_method_78_code_59 : decode jdk_42_method_78_code 59 = .ok (.ireturn, 1) := by decide +kernel
theorem d_jdk_42_method_78_code_53 : decode jdk_42_method_78_code 53 = .ok (.aload_n 0, 1) := by decide +kernel
theorem d_jdk_42_method_78_code_54 : decode jdk_42_method_78_code 54 = .ok (.iload_n 1, 1) := by decide +kernel
theorem d_jdk_42_method_78_code_55 : decode jdk_42_method_78_code 55 = .ok (.putfield 19, 3) := by decide +kernel
theorem ef_rmHC (m : MethodId) (x0 : Addr) : entryFrame m #[(.ref x0)] 2 = mkF m 0 #[.val (.ref x0), .unset] [] := by first | (simp [entryFrame, mkF, argsToLocals, Value.category]; done) | rfl
set_option maxRecDepth 65536 in
set_option maxHeartbeats 40000000 in
theorem rmHC (l : Launch) (Z : State) (a0 : Array Value) (hw : ∀ d ∈ tables_1, d.before a0 Z = true) (ws : List Jvm.Cond) (sx tx : Addr) (kx : ClassId) (cs : List Int32) (G1 : Int32) (h0 : Heap) (n0 : Nat) (Z0 : n0 ≤ h0.size) (g_sx : n0 ≤ sx) (SH : OStrH Z h0 sx tx kx cs) (O2 : Sta Z Z.heap "java/lang/String" "COMPACT_STRINGS" "Z" (.int G1)) (P5 : ¬ G1 = 0) (X00 : Old Z n0 h0) :
    MetFree l (⟨"java/lang/String", "hashCode", "()I"⟩ : MethodName) (head1 (Jvm.Cond.code (⟨"java/lang/String", "hashCode", "()I"⟩ : MethodName) jdk_42_method_78_code 2 (some .int) :: ws) ({ frames := 3, cells := 0, slots := 0, locals := 45 } : Room)) (fun aa U => aa = #[(.ref sx)] ∧ Z.Warmed39 U.vm ∧ U.heap = h0) (fun _ _ _ _ _ => True) (fun _ U o U' => ∃ v L, o = .returned v ∧ QHC Z sx tx kx cs h0 n0 v U'.heap L ∧ FrameEnd U o U' L ({ frames := 3, cells := 0, slots := 0, locals := 45 } : Room).cells ({ frames := 3, cells := 0, slots := 0, locals := 45 } : Room).slots) := by
  refine MetFree.of_bodySF (plainFor_of_name pn_java_lang_String) hisR ?_
  intro p e s m args below meth c s₁ Bd hml0 hP hK
  obtain ⟨rfl, hZ, hh⟩ := hP
  have hx := Bd.exec
  have hby := Bd.bytes
  have hml : c.maxLocals = 2 := hml0
  have hown : s.vm.findClass "java/lang/String" = some m.cls := findClass_of_methodNamed Bd.named
  have hnm := (name_of_methodNamed Bd.named Bd.method).1
  have X0 : Stand p l e ({ frames := 3, cells := 0, slots := 0, locals := 45 } : Room) s m #[(.ref sx)] below meth c s₁ [] 0 0 := Stand.of_body Bd
  have e0 : s₁.heap = h0 := by rw [← hh, Bd.state]; rfl
  have N0 := Fr.nil n0
  have K0 := Keep.refl h0 [sx]
  obtain ⟨S0, hS0⟩ : ∃ z, z = s₁.setTop (entryFrame m #[(.ref sx)] 2) := ⟨_, rfl⟩
  rw [← hS0]
  have c0 : Steps p.tables e below S0 (s₁.setTop (mkF m 0 #[.val (.ref sx), .unset] [])) := by
    rw [hS0]; exact castTop (ef_rmHC m sx) (Steps.refl _)
  have c1 : Steps p.tables e below S0 (s₁.setTop (mkF m 1 #[.val (.ref sx), .unset] [(.ref sx)])) := c0.trans (by
    show Steps p.tables e below (s₁.setTop (mkF m 0 #[.val (.ref sx), .unset] [])) _
    refine XS.aloadN X0.here hx rfl (hb hby d_jdk_42_method_78_code_0) rfl rfl ?_
    exact Steps.refl _)
  obtain ⟨T2, X2, e2, st2⟩ := getF X0 hx hZ hown (host := "") (Or.inl (hw _ (List.mem_of_getElem? (i := 60) rfl))) Via.refl e0 SH.2.1 (g := (mkF m 1 #[.val (.ref sx), .unset] [(.ref sx)])) rfl rfl (hb hby d_jdk_42_method_78_code_1)
  have c3 : Steps p.tables e below S0 (T2.setTop (mkF m 4 #[.val (.ref sx), .unset] [(.int (0 : Int32))])) := c1.trans (st2 _ (Steps.refl _))
  have c4 : Steps p.tables e below S0 (T2.setTop (mkF m 10 #[.val (.ref sx), .val (.int (0 : Int32))] [(.ref sx)])) := c3.trans (by
    show Steps p.tables e below (T2.setTop (mkF m 4 #[.val (.ref sx), .unset] [(.int (0 : Int32))])) _
    refine XS.istoreN X2.here hx rfl (hb hby d_jdk_42_method_78_code_4) rfl (l' := #[.val (.ref sx), .val (.int (0 : Int32))]) rfl ?_
    refine XS.iloadN X2.here hx rfl (hb hby d_jdk_42_method_78_code_5) rfl ?_
    refine XS.ifNo X2.here hx rfl (hb hby d_jdk_42_method_78_code_6) rfl ((if0 _ _).trans (teq (by decide : ((0 : Int32) = (0 : Int32)))).2) ?_
    refine XS.aloadN X2.here hx rfl (hb hby d_jdk_42_method_78_code_9) rfl rfl ?_
    exact Steps.refl _)
  obtain ⟨T5, X5, e5, st5⟩ := getF X2 hx hZ hown (host := "") (Or.inl (hw _ (List.mem_of_getElem? (i := 62) rfl))) Via.refl e2 SH.2.2.1 (g := (mkF m 10 #[.val (.ref sx), .val (.int (0 : Int32))] [(.ref sx)])) rfl rfl (hb hby d_jdk_42_method_78_code_10)
  have c6 : Steps p.tables e below S0 (T5.setTop (mkF m 13 #[.val (.ref sx), .val (.int (0 : Int32))] [(.int (0 : Int32))])) := c4.trans (st5 _ (Steps.refl _))
  have c7 : Steps p.tables e below S0 (T5.setTop (mkF m 17 #[.val (.ref sx), .val (.int (0 : Int32))] [(.ref sx)])) := c6.trans (by
    show Steps p.tables e below (T5.setTop (mkF m 13 #[.val (.ref sx), .val (.int (0 : Int32))] [(.int (0 : Int32))])) _
    refine XS.ifNo X5.here hx rfl (hb hby d_jdk_42_method_78_code_13) rfl ((if0 _ _).trans (teq (by decide : ((0 : Int32) = (0 : Int32)))).2) ?_
    refine XS.aloadN X5.here hx rfl (hb hby d_jdk_42_method_78_code_16) rfl rfl ?_
    exact Steps.refl _)
  obtain ⟨cq8, kq8, q8a, q8b, q8c⟩ := isOf hZ e5 SH.1.1
  obtain ⟨_, _, ⟨T8, L8, kk8, nn8⟩, -, X8, ⟨Lc8, hQ8, l8, y8, z8⟩, st8⟩ := X5.virtualBack hx (y := (⟨"java/lang/String", "isLatin1", "()Z"⟩ : MethodName)) (z := (⟨"java/lang/String", "isLatin1", "()Z"⟩ : MethodName)) hown (mvT hZ (hw _ (List.mem_of_getElem? (i := 64) rfl))) (mvT hZ (hw _ (List.mem_of_getElem? (i := 65) rfl))) (notFace_of_selects (args := #[]) (mvT hZ (hw _ (List.mem_of_getElem? (i := 67) rfl)))) (mvT hZ (hw _ (List.mem_of_getElem? (i := 67) rfl))) (mvT hZ (hw _ (List.mem_of_getElem? (i := 66) rfl))) (by decide) (backOf (W := 0) (rmIL l Z a0 hw [] sx G1 h0 n0 Z0 SH.1.2.2.1 O2 P5 X00) hZ (hw _ (List.mem_of_getElem? (i := 68) rfl)) (hw _ (List.mem_of_getElem? (i := 6) rfl)) (by decide) (by decide)) q8a q8c (g := (mkF m 17 #[.val (.ref sx), .val (.int (0 : Int32))] [(.ref sx)])) rfl (by rw [hml]; rfl) (Steps.refl _) (argsL := []) (rest := []) (lenOf pd_ocZ rfl) rfl (by show 2 * 0 + _ ≤ _; exact Nat.le_of_eq rfl) (hb hby d_jdk_42_method_78_code_17) (fun _ _ => ⟨rfl, e5, (by decide : 0 + 0 ≤ _), (by decide : 0 + 0 ≤ _)⟩)
  dsimp only [Pt.U, Pt.locs, Pt.cells, Pt.slots] at X8 l8 y8 z8 st8 hQ8
  subst l8 y8 z8
  obtain ⟨rfl, Nq8, eq8⟩ := hQ8
  have c9 : Steps p.tables e below S0 (T8.setTop (mkF m 20 #[.val (.ref sx), .val (.int (0 : Int32))] [(.int (1 : Int32))])) := c7.trans (st8)
  have N8 := Fr.app N0 Nq8
  have c10 : Steps p.tables e below S0 (T8.setTop (mkF m 24 #[.val (.ref sx), .val (.int (0 : Int32))] [(.ref sx)])) := c9.trans (by
    show Steps p.tables e below (T8.setTop (mkF m 20 #[.val (.ref sx), .val (.int (0 : Int32))] [(.int (1 : Int32))])) _
    refine XS.ifNo X8.here hx rfl (hb hby d_jdk_42_method_78_code_20) rfl ((if0 _ _).trans (feq (by decide : ¬ ((1 : Int32) = (0 : Int32)))).1) ?_
    refine XS.aloadN X8.here hx rfl (hb hby d_jdk_42_method_78_code_23) rfl rfl ?_
    exact Steps.refl _)
  obtain ⟨T11, X11, e11, st11⟩ := getF X8 hx hZ hown (host := "") (Or.inl (hw _ (List.mem_of_getElem? (i := 24) rfl))) Via.refl eq8 SH.1.2.1 (g := (mkF m 24 #[.val (.ref sx), .val (.int (0 : Int32))] [(.ref sx)])) rfl rfl (hb hby d_jdk_42_method_78_code_24)
  have c12 : Steps p.tables e below S0 (T11.setTop (mkF m 27 #[.val (.ref sx), .val (.int (0 : Int32))] [(.ref tx)])) := c10.trans (st11 _ (Steps.refl _))
  obtain ⟨_, _, ⟨T13, L13, kk13, nn13⟩, -, X13, ⟨Lc13, hQ13, l13, y13, z13⟩, st13⟩ := Jvm.LawKit.callS X11 hx (y := (⟨"java/lang/StringLatin1", "hashCode", "([B)I"⟩ : MethodName)) hown (mvT hZ (hw _ (List.mem_of_getElem? (i := 69) rfl))) (mvT hZ (hw _ (List.mem_of_getElem? (i := 70) rfl))) (mvT hZ (hw _ (List.mem_of_getElem? (i := 71) rfl))) (mvT hZ (hw _ (List.mem_of_getElem? (i := 72) rfl))) (by decide) (backOf (W := 0) (rmLH l Z a0 hw [] tx kx cs h0 n0 Z0 SH.1.2.2.2.1 SH.1.2.2.2.2.1 SH.1.2.2.2.2.2 SH.2.2.2) hZ (hw _ (List.mem_of_getElem? (i := 72) rfl)) (hw _ (List.mem_of_getElem? (i := 71) rfl)) (by decide) (by decide)) (g := (mkF m 27 #[.val (.ref sx), .val (.int (0 : Int32))] [(.ref tx)])) rfl (by rw [hml]; rfl) (argsL := [(.ref tx)]) (rest := []) (lenOf pd_oaBcI rfl) rfl (by show 2 * 0 + _ ≤ _; exact Nat.le_of_eq rfl) (hb hby d_jdk_42_method_78_code_27) (fun _ _ => ⟨rfl, e11, (by decide : 0 + 0 ≤ _), (by decide : 0 + 0 ≤ _)⟩)
  dsimp only [Pt.U, Pt.locs, Pt.cells, Pt.slots] at X13 l13 y13 z13 st13 hQ13
  subst l13 y13 z13
  obtain ⟨rfl, Nq13, eq13⟩ := hQ13
  have c14 : Steps p.tables e below S0 (T13.setTop (mkF m 30 #[.val (.ref sx), .val (.int (0 : Int32))] [(.int (own_hash cs))])) := c12.trans (st13 _ (Steps.refl _))
  have N13 := Fr.app N8 Nq13
  have c15 : Steps p.tables e below S0 (T13.setTop (mkF m 42 #[.val (.ref sx), .val (.int (own_hash cs))] [(.int (own_hash cs))])) := c14.trans (by
    show Steps p.tables e below (T13.setTop (mkF m 30 #[.val (.ref sx), .val (.int (0 : Int32))] [(.int (own_hash cs))])) _
    refine XS.goto X13.here hx rfl (pc0 := 30) (pc' := 40) rfl (hb hby d_jdk_42_method_78_code_30) (by decide) (by decide) ?_
    refine XS.istoreN X13.here hx rfl (hb hby d_jdk_42_method_78_code_40) rfl (l' := #[.val (.ref sx), .val (.int (own_hash cs))]) rfl ?_
    refine XS.iloadN X13.here hx rfl (hb hby d_jdk_42_method_78_code_41) rfl ?_
    exact Steps.refl _)
  by_cases hq16 : (own_hash cs) = (0 : Int32)
  · have c17 : Steps p.tables e below S0 (T13.setTop (mkF m 47 #[.val (.ref sx), .val (.int (own_hash cs))] [(.int (1 : Int32)), (.ref sx)])) := c15.trans (by
      show Steps p.tables e below (T13.setTop (mkF m 42 #[.val (.ref sx), .val (.int (own_hash cs))] [(.int (own_hash cs))])) _
      refine XS.ifNo X13.here hx rfl (hb hby d_jdk_42_method_78_code_42) rfl ((if0 _ _).trans (teq hq16).2) ?_
      refine XS.aloadN X13.here hx rfl (hb hby d_jdk_42_method_78_code_45) rfl rfl ?_
      refine XS.iconst X13.here hx rfl (hb hby d_jdk_42_method_78_code_46) ?_
      exact Steps.refl _)
    obtain ⟨T18, h18, X18, e18, W18, st18⟩ := putFN X13 hx hZ hown (hw _ (List.mem_of_getElem? (i := 62) rfl)) Via.refl eq13 SH.2.2.1 SH.1.1 (Or.inl (hw _ (List.mem_of_getElem? (i := 63) rfl))) (hw _ (List.mem_of_getElem? (i := 5) rfl)) (ty := .boolean) (v' := (.int (1 : Int32))) (by decide) rfl rfl (g := (mkF m 47 #[.val (.ref sx), .val (.int (own_hash cs))] [(.int (1 : Int32)), (.ref sx)])) rfl rfl (hb hby d_jdk_42_method_78_code_47)
    have c19 : Steps p.tables e below S0 (T18.setTop (mkF m 50 #[.val (.ref sx), .val (.int (own_hash cs))] [])) := c17.trans (st18 _ (Steps.refl _))
    have N18 := Fr.snoc X18 N13 g_sx
    have Fw18 := SH.2.2.1.same W18
    have z18 : n0 ≤ h18.size := Nat.le_trans Z0 (Keep.of_wr W18).1
    have K18 := K0.wr W18 (Or.inl (by simp))
    have c20 : Steps p.tables e below S0 (T18.setTop (mkF m 59 #[.val (.ref sx), .val (.int (own_hash cs))] [(.int (own_hash cs))])) := c19.trans (by
      show Steps p.tables e below (T18.setTop (mkF m 50 #[.val (.ref sx), .val (.int (own_hash cs))] [])) _
      refine XS.goto X18.here hx rfl (pc0 := 50) (pc' := 58) rfl (hb hby d_jdk_42_method_78_code_50) (by decide) (by decide) ?_
      refine XS.iloadN X18.here hx rfl (hb hby d_jdk_42_method_78_code_58) rfl ?_
      exact Steps.refl _)
    obtain ⟨fs, hr, hrun, hended, hW, hsame⟩ := X18.leave (v := some (.int (own_hash cs))) (fun h => by rw [Bd.returns] at h; cases h)
    refine ⟨_, _, c20.trans (retOut X18 hx Bd.returns rfl (Or.inl ⟨rfl, by simp, _, rfl⟩) (hb hby d_jdk_42_method_78_code_59) hr), hrun, hended, _, _, rfl, ?_, ⟨_, rfl⟩, hW, hsame.mono (by first | decide | exact Nat.le_of_ble_eq_true rfl) (by first | decide | exact Nat.le_of_ble_eq_true rfl)⟩
    show QHC Z sx tx kx cs h0 n0 _ T18.heap _
    rw [e18]
    exact ⟨rfl, N18, K18, ⟨(SH.1.1.wr W18), (SH.1.2.1.other W18 (Or.inr (slot_ne (Or.inr (hw _ (List.mem_of_getElem? (i := 20) rfl))) (Or.inl (hw _ (List.mem_of_getElem? (i := 63) rfl))) (by decide) (t := (.array .byte)) (t' := .boolean) (by decide) (by decide)))), (SH.1.2.2.1.other W18 (Or.inr (slot_ne (Or.inr (hw _ (List.mem_of_getElem? (i := 21) rfl))) (Or.inl (hw _ (List.mem_of_getElem? (i := 63) rfl))) (by decide) (t := .byte) (t' := .boolean) (by decide) (by decide)))), (SH.1.2.2.2.1.other W18 (Ne.symm (Exa.neArv SH.1.1 SH.1.2.2.2.1 (hw _ (List.mem_of_getElem? (i := 5) rfl))))), SH.1.2.2.2.2.1, SH.1.2.2.2.2.2⟩⟩
  · have c21 : Steps p.tables e below S0 (T13.setTop (mkF m 55 #[.val (.ref sx), .val (.int (own_hash cs))] [(.int (own_hash cs)), (.ref sx)])) := c15.trans (by
      show Steps p.tables e below (T13.setTop (mkF m 42 #[.val (.ref sx), .val (.int (own_hash cs))] [(.int (own_hash cs))])) _
      refine XS.ifYes X13.here hx rfl (pc0 := 42) (pc' := 53) rfl (hb hby d_jdk_42_method_78_code_42) rfl ((if0 _ _).trans (feq hq16).2) (by decide) (by decide) ?_
      refine XS.aloadN X13.here hx rfl (hb hby d_jdk_42_method_78_code_53) rfl rfl ?_
      refine XS.iloadN X13.here hx rfl (hb hby d_jdk_42_method_78_code_54) rfl ?_
      exact Steps.refl _)
    obtain ⟨T22, h22, X22, e22, W22, st22⟩ := putF X13 hx hZ hown (host := "") (Or.inl (hw _ (List.mem_of_getElem? (i := 60) rfl))) Via.refl eq13 SH.2.1 SH.1.1 (Or.inl (hw _ (List.mem_of_getElem? (i := 61) rfl))) (hw _ (List.mem_of_getElem? (i := 5) rfl)) (ty := .int) (by decide) rfl rfl (g := (mkF m 55 #[.val (.ref sx), .val (.int (own_hash cs))] [(.int (own_hash cs)), (.ref sx)])) rfl rfl (hb hby d_jdk_42_method_78_code_55)
    have c23 : Steps p.tables e below S0 (T22.setTop (mkF m 58 #[.val (.ref sx), .val (.int (own_hash cs))] [])) := c21.trans (st22 _ (Steps.refl _))
    have N22 := Fr.snoc X22 N13 g_sx
    have Fw22 := SH.2.1.same W22
    have z22 : n0 ≤ h22.size := Nat.le_trans Z0 (Keep.of_wr W22).1
    have K22 := K0.wr W22 (Or.inl (by simp))
    have c24 : Steps p.tables e below S0 (T22.setTop (mkF m 59 #[.val (.ref sx), .val (.int (own_hash cs))] [(.int (own_hash cs))])) := c23.trans (by
      show Steps p.tables e below (T22.setTop (mkF m 58 #[.val (.ref sx), .val (.int (own_hash cs))] [])) _
      refine XS.iloadN X22.here hx rfl (hb hby d_jdk_42_method_78_code_58) rfl ?_
      exact Steps.refl _)
    obtain ⟨fs, hr, hrun, hended, hW, hsame⟩ := X22.leave (v := some (.int (own_hash cs))) (fun h => by rw [Bd.returns] at h; cases h)
    refine ⟨_, _, c24.trans (retOut X22 hx Bd.returns rfl (Or.inl ⟨rfl, by simp, _, rfl⟩) (hb hby d_jdk_42_method_78_code_59) hr), hrun, hended, _, _, rfl, ?_, ⟨_, rfl⟩, hW, hsame.mono (by first | decide | exact Nat.le_of_ble_eq_true rfl) (by first | decide | exact Nat.le_of_ble_eq_true rfl)⟩
    show QHC Z sx tx kx cs h0 n0 _ T22.heap _
    rw [e22]
    exact ⟨rfl, N22, K22, ⟨(SH.1.1.wr W22), (SH.1.2.1.other W22 (Or.inr (slot_ne (Or.inr (hw _ (List.mem_of_getElem? (i := 20) rfl))) (Or.inl (hw _ (List.mem_of_getElem? (i := 61) rfl))) (by decide) (t := (.array .byte)) (t' := .int) (by decide) (by decide)))), (SH.1.2.2.1.other W22 (Or.inr (slot_ne (Or.inr (hw _ (List.mem_of_getElem? (i := 21) rfl))) (Or.inl (hw _ (List.mem_of_getElem? (i := 61) rfl))) (by decide) (t := .byte) (t' := .int) (by decide) (by decide)))), (SH.1.2.2.2.1.other W22 (Ne.symm (Exa.neArv SH.1.1 SH.1.2.2.2.1 (hw _ (List.mem_of_getElem? (i := 5) rfl))))), SH.1.2.2.2.2.1, SH.1.2.2.2.2.2⟩⟩

def QE (Z : State) (x : Addr) (h0 : Heap) (n0 : Nat) (v : Option Value) (h : Heap) (L : List Loc) : Prop := ∃ (t : Addr) (kb : ClassId), v = none ∧ Fr n0 L ∧ Keep h0 h [x] ∧ OStr Z h x t kb [] ∧ Fld Z h x "java/lang/String" "hash" "I" (.int (0 : Int32)) ∧ Fld Z h x "java/lang/String" "hashIsZero" "Z" (.int (0 : Int32))

theorem d_jdk_42_method_149_code_0 : decode jdk_42_method_149_code 0 = .ok (.aload_n 0, 1) := by decide +kernel
theorem d_jdk_42_method_149_code_1 : decode jdk_42_method_149_code 1 = .ok (.invokespecial 1, 3) := by decide +kernel
theorem d_jdk_42_method_149_code_4 : decode jdk_42_method_149_code 4 = .ok (.iload_n 3, 1) := by decide +kernel
theorem d_jdk_42_method_149_code_5 : decode jdk_42_method_149_code 5 = .ok (.ifCond .ne 22, 3) := by decide +kernel
theorem d_jdk_42_method_149_code_8 : decode jdk_42_method_149_code 8 = .ok (.aload_n 0, 1) := by decide +kernel
theorem d_jdk_42_method_149_code_9 : decode jdk_42_method_149_code 9 = .ok (.ldc 7, 2) := by decide +kernel
theorem d_jdk_42_method_149_code_11 : decode jdk_42_method_149_code 11 = .ok (.getfield 9, 3) := by decide +kernel
theorem d_jdk_42_method_149_code_14 : decode jdk_42_method_149_code 14 = .ok (.putfield 9, 3) := by decide +kernel
theorem d_jdk_42_method_149_code_17 : decode jdk_42_method_149_code 17 = .ok (.aload_n 0, 1) := by decide +kernel
theorem d_jdk_42_method_149_code_18 : decode jdk_42_method_149_code 18 = .ok (.ldc 7, 2) := by decide +kernel
theorem d_jdk_42_method_149_code_20 : decode jdk_42_method_149_code 20 = .ok (.getfield 15, 3) := by decide +kernel
theorem d_jdk_42_method_149_code_23 : decode jdk_42_method_149_code 23 = .ok (.putfield 15, 3) := by decide +kernel
theorem d_jdk_42_method_149_code_26 : decode jdk_42_method_149_code 26 = .ok (.return_, 1) := by decide +kernel
theorem ef_rmE4 (m : MethodId) (x0 : Addr) (x1 : Addr) (x2 : Int32) (x3 : Int32) : entryFrame m #[(.ref x0), (.ref x1), (.int x2), (.int x3), .null] 6 = mkF m 0 #[.val (.ref x0), .val (.ref x1), .val (.int x2), .val (.int x3), .val .null, .unset] [] := by first | (simp [entryFrame, mkF, argsToLocals, Value.category]; done) | rfl
set_option maxRecDepth 65536 in
set_option maxHeartbeats 40000000 in
theorem rmE4 (l : Launch) (Z : State) (a0 : Array Value) (hw : ∀ d ∈ tables_1, d.before a0 Z = true) (ws : List Jvm.Cond) (x b : Addr) (h0 : Heap) (n0 : Nat) (Z0 : n0 ≤ h0.size) (g_x : n0 ≤ x) (Ex : Exa Z h0 x "java/lang/String") (Fv : Fld Z h0 x "java/lang/String" "value" "[B" .null) (Fc : Fld Z h0 x "java/lang/String" "coder" "B" (.int (0 : Int32))) (Fh : Fld Z h0 x "java/lang/String" "hash" "I" (.int (0 : Int32))) (Fz : Fld Z h0 x "java/lang/String" "hashIsZero" "Z" (.int (0 : Int32))) :
    MetFree l (⟨"java/lang/String", "<init>", "([CIILjava/lang/Void;)V"⟩ : MethodName) (head1 (Jvm.Cond.code (⟨"java/lang/String", "<init>", "([CIILjava/lang/Void;)V"⟩ : MethodName) jdk_42_method_149_code 6 (none) :: ws) ({ frames := 1, cells := 4, slots := 8, locals := 12 } : Room)) (fun aa U => aa = #[(.ref x), (.ref b), (.int (0 : Int32)), (.int (0 : Int32)), .null] ∧ Z.Warmed39 U.vm ∧ U.heap = h0 ∧ CHv Z EL U.vm h0) (fun _ _ _ _ _ => True) (fun _ U o U' => ∃ v L, o = .returned v ∧ QE Z x h0 n0 v U'.heap L ∧ CHr Z EL U.vm U.heap U'.vm U'.heap ∧ ReturnedEndW U o U' L ({ frames := 1, cells := 4, slots := 8, locals := 12 } : Room).cells ({ frames := 1, cells := 4, slots := 8, locals := 12 } : Room).slots) := by
  refine MetFree.of_bodySF (plainFor_of_name pn_java_lang_String) hisR ?_
  intro p e s m args below meth c s₁ Bd hml0 hP hK
  obtain ⟨rfl, hZ, hh, hCH⟩ := hP
  have hx := Bd.exec
  have hby := Bd.bytes
  have hml : c.maxLocals = 6 := hml0
  have hown : s.vm.findClass "java/lang/String" = some m.cls := findClass_of_methodNamed Bd.named
  have hnm := (name_of_methodNamed Bd.named Bd.method).1
  have X0 : Stand p l e ({ frames := 1, cells := 4, slots := 8, locals := 12 } : Room) s m #[(.ref x), (.ref b), (.int (0 : Int32)), (.int (0 : Int32)), .null] below meth c s₁ [] 0 0 := Stand.of_body Bd
  have e0 : s₁.heap = h0 := by rw [← hh, Bd.state]; rfl
  have N0 := Fr.nil n0
  have K0 := Keep.refl h0 [x]
  obtain ⟨S0, hS0⟩ : ∃ z, z = s₁.setTop (entryFrame m #[(.ref x), (.ref b), (.int (0 : Int32)), (.int (0 : Int32)), .null] 6) := ⟨_, rfl⟩
  rw [← hS0]
  have c0 : Steps p.tables e below S0 (s₁.setTop (mkF m 0 #[.val (.ref x), .val (.ref b), .val (.int (0 : Int32)), .val (.int (0 : Int32)), .val .null, .unset] [])) := by
    rw [hS0]; exact castTop (ef_rmE4 m x b (0 : Int32) (0 : Int32)) (Steps.refl _)
  have X0 : Stand p l e ({ frames := 1, cells := 4, slots := 8, locals := 12 } : Room) (s.setVm s.vm) m #[(.ref x), (.ref b), (.int (0 : Int32)), (.int (0 : Int32)), .null] below meth c s₁ [] 0 0 := X0
  have hS0 : s.Since s.vm 0 := own_since s
  have R0 : CHr Z EL s.vm h0 s.vm h0 := CHr.refl hCH
  have hEL := own_EW hw
  have hwS := own_strw hw
  have c1 : Steps p.tables e below S0 (s₁.setTop (mkF m 1 #[.val (.ref x), .val (.ref b), .val (.int (0 : Int32)), .val (.int (0 : Int32)), .val .null, .unset] [(.ref x)])) := c0.trans (by
    show Steps p.tables e below (s₁.setTop (mkF m 0 #[.val (.ref x), .val (.ref b), .val (.int (0 : Int32)), .val (.int (0 : Int32)), .val .null, .unset] [])) _
    refine XS.aloadN X0.here hx rfl (hb hby d_jdk_42_method_149_code_0) rfl rfl ?_
    exact Steps.refl _)
  obtain ⟨T2, X2, e2, st2⟩ := initO X0 hx hZ hown (hw _ (List.mem_of_getElem? (i := 15) rfl)) (hw _ (List.mem_of_getElem? (i := 16) rfl)) (hw _ (List.mem_of_getElem? (i := 17) rfl)) e0 (g := (mkF m 1 #[.val (.ref x), .val (.ref b), .val (.int (0 : Int32)), .val (.int (0 : Int32)), .val .null, .unset] [(.ref x)])) rfl (by rw [hml]; rfl) rfl (hb hby d_jdk_42_method_149_code_1) (by decide) (W := 0) (by show 2 * 0 + _ ≤ _; exact Nat.le_of_eq rfl) (by decide)
  have c3 : Steps p.tables e below S0 (T2.setTop (mkF m 4 #[.val (.ref x), .val (.ref b), .val (.int (0 : Int32)), .val (.int (0 : Int32)), .val .null, .unset] [])) := c1.trans (st2 _ (Steps.refl _))
  have c4 : Steps p.tables e below S0 (T2.setTop (mkF m 9 #[.val (.ref x), .val (.ref b), .val (.int (0 : Int32)), .val (.int (0 : Int32)), .val .null, .unset] [(.ref x)])) := c3.trans (by
    show Steps p.tables e below (T2.setTop (mkF m 4 #[.val (.ref x), .val (.ref b), .val (.int (0 : Int32)), .val (.int (0 : Int32)), .val .null, .unset] [])) _
    refine XS.iloadN X2.here hx rfl (hb hby d_jdk_42_method_149_code_4) rfl ?_
    refine XS.ifNo X2.here hx rfl (hb hby d_jdk_42_method_149_code_5) rfl ((if0 _ _).trans (teq (by decide : ((0 : Int32) = (0 : Int32)))).2) ?_
    refine XS.aloadN X2.here hx rfl (hb hby d_jdk_42_method_149_code_8) rfl rfl ?_
    exact Steps.refl _)
  obtain ⟨a5, T5, h5, k5, t5, kb5, X5, e5, E5, hS5, hk5, hZ5, hown5, Ex5, Fc5, Fv5, Va5, la5, lb5, r5, -, -, st5⟩ := ldcCH X2 hx hZ hown (hw _ (List.mem_of_getElem? (i := 18) rfl)) hwS e2 hS0 (Nat.zero_le _) hEL (List.mem_of_getElem? (i := 2) rfl) R0.1 (vs := []) (z := 0) ⟨by simp, rfl⟩ (by decide) rfl (g := (mkF m 9 #[.val (.ref x), .val (.ref b), .val (.int (0 : Int32)), .val (.int (0 : Int32)), .val .null, .unset] [(.ref x)])) rfl (hb hby d_jdk_42_method_149_code_9) (n := 0) (by decide) (by decide) (by decide) (by decide)
  have c6 : Steps p.tables e below S0 (T5.setTop (mkF m 11 #[.val (.ref x), .val (.ref b), .val (.int (0 : Int32)), .val (.int (0 : Int32)), .val .null, .unset] [(.ref a5), (.ref x)])) := c4.trans (st5 _ (Steps.refl _))
  have z5 : n0 ≤ h5.size := Nat.le_trans Z0 E5.1
  have K5 := K0.ext E5
  have R5 := R0.trans r5
  obtain ⟨T7, X7, e7, st7⟩ := getF X5 hx hZ5 hown5 (host := "") (Or.inl (hw _ (List.mem_of_getElem? (i := 24) rfl))) Via.refl e5 Fv5 (g := (mkF m 11 #[.val (.ref x), .val (.ref b), .val (.int (0 : Int32)), .val (.int (0 : Int32)), .val .null, .unset] [(.ref a5), (.ref x)])) rfl rfl (hb hby d_jdk_42_method_149_code_11)
  have c8 : Steps p.tables e below S0 (T7.setTop (mkF m 14 #[.val (.ref x), .val (.ref b), .val (.int (0 : Int32)), .val (.int (0 : Int32)), .val .null, .unset] [(.ref t5), (.ref x)])) := c6.trans (st7 _ (Steps.refl _))
  obtain ⟨T9, h9, X9, e9, W9, st9⟩ := putF X7 hx hZ5 hown5 (host := "") (Or.inl (hw _ (List.mem_of_getElem? (i := 24) rfl))) Via.refl e7 (Fv.ext E5) (Ex.ext E5) (Or.inr ⟨(hw _ (List.mem_of_getElem? (i := 20) rfl)), rfl, hnm⟩) (hw _ (List.mem_of_getElem? (i := 5) rfl)) (ty := (.array .byte)) (by decide) rfl rfl (g := (mkF m 14 #[.val (.ref x), .val (.ref b), .val (.int (0 : Int32)), .val (.int (0 : Int32)), .val .null, .unset] [(.ref t5), (.ref x)])) rfl rfl (hb hby d_jdk_42_method_149_code_14)
  have c10 : Steps p.tables e below S0 (T9.setTop (mkF m 17 #[.val (.ref x), .val (.ref b), .val (.int (0 : Int32)), .val (.int (0 : Int32)), .val .null, .unset] [])) := c8.trans (st9 _ (Steps.refl _))
  have N9 := Fr.snoc X9 N0 g_x
  have Fw9 := (Fv.ext E5).same W9
  have z9 : n0 ≤ h9.size := Nat.le_trans z5 (Keep.of_wr W9).1
  have K9 := K5.wr W9 (Or.inl (by simp))
  have r9 : CHr Z EL T5.vm h5 T5.vm h9 := CHr.wr W9 (r5.safe Ex.lt (own_safe hZ.alike Ex Fv)) R5.1
  have R9 := R5.trans r9
  have c11 : Steps p.tables e below S0 (T9.setTop (mkF m 18 #[.val (.ref x), .val (.ref b), .val (.int (0 : Int32)), .val (.int (0 : Int32)), .val .null, .unset] [(.ref x)])) := c10.trans (by
    show Steps p.tables e below (T9.setTop (mkF m 17 #[.val (.ref x), .val (.ref b), .val (.int (0 : Int32)), .val (.int (0 : Int32)), .val .null, .unset] [])) _
    refine XS.aloadN X9.here hx rfl (hb hby d_jdk_42_method_149_code_17) rfl rfl ?_
    exact Steps.refl _)
  obtain ⟨a12, T12, h12, k12, t12, kb12, X12, e12, E12, hS12, hk12, hZ12, hown12, Ex12, Fc12, Fv12, Va12, la12, lb12, r12, -, -, st12⟩ := ldcCH X9 hx hZ5 hown5 (hw _ (List.mem_of_getElem? (i := 18) rfl)) hwS e9 hS5 (Nat.le_trans hk5 (Keep.of_wr W9).1) hEL (List.mem_of_getElem? (i := 2) rfl) R9.1 (vs := []) (z := 0) ⟨by simp, rfl⟩ (by decide) rfl (g := (mkF m 18 #[.val (.ref x), .val (.ref b), .val (.int (0 : Int32)), .val (.int (0 : Int32)), .val .null, .unset] [(.ref x)])) rfl (hb hby d_jdk_42_method_149_code_18) (n := 0) (by decide) (by decide) (by decide) (by decide)
  have c13 : Steps p.tables e below S0 (T12.setTop (mkF m 20 #[.val (.ref x), .val (.ref b), .val (.int (0 : Int32)), .val (.int (0 : Int32)), .val .null, .unset] [(.ref a12), (.ref x)])) := c11.trans (st12 _ (Steps.refl _))
  have z12 : n0 ≤ h12.size := Nat.le_trans z9 E12.1
  have K12 := K9.ext E12
  have R12 := R9.trans r12
  obtain ⟨T14, X14, e14, st14⟩ := getF X12 hx hZ12 hown12 (host := "") (Or.inl (hw _ (List.mem_of_getElem? (i := 25) rfl))) Via.refl e12 Fc12 (g := (mkF m 20 #[.val (.ref x), .val (.ref b), .val (.int (0 : Int32)), .val (.int (0 : Int32)), .val .null, .unset] [(.ref a12), (.ref x)])) rfl rfl (hb hby d_jdk_42_method_149_code_20)
  have c15 : Steps p.tables e below S0 (T14.setTop (mkF m 23 #[.val (.ref x), .val (.ref b), .val (.int (0 : Int32)), .val (.int (0 : Int32)), .val .null, .unset] [(.int (0 : Int32)), (.ref x)])) := c13.trans (st14 _ (Steps.refl _))
  obtain ⟨T16, h16, X16, e16, W16, st16⟩ := putFN X14 hx hZ12 hown12 (hw _ (List.mem_of_getElem? (i := 25) rfl)) Via.refl e14 (((Fc.ext E5).other W9 (Or.inr (slot_ne (Or.inr (hw _ (List.mem_of_getElem? (i := 21) rfl))) (Or.inr (hw _ (List.mem_of_getElem? (i := 20) rfl))) (by decide) (t := .byte) (t' := (.array .byte)) (by decide) (by decide)))).ext E12) (((Ex.ext E5).wr W9).ext E12) (Or.inr ⟨(hw _ (List.mem_of_getElem? (i := 21) rfl)), rfl, hnm⟩) (hw _ (List.mem_of_getElem? (i := 5) rfl)) (ty := .byte) (v' := (.int (0 : Int32))) (by decide) rfl rfl (g := (mkF m 23 #[.val (.ref x), .val (.ref b), .val (.int (0 : Int32)), .val (.int (0 : Int32)), .val .null, .unset] [(.int (0 : Int32)), (.ref x)])) rfl rfl (hb hby d_jdk_42_method_149_code_23)
  have c17 : Steps p.tables e below S0 (T16.setTop (mkF m 26 #[.val (.ref x), .val (.ref b), .val (.int (0 : Int32)), .val (.int (0 : Int32)), .val .null, .unset] [])) := c15.trans (st16 _ (Steps.refl _))
  have N16 := Fr.snoc X16 N9 g_x
  have Fw16 := (((Fc.ext E5).other W9 (Or.inr (slot_ne (Or.inr (hw _ (List.mem_of_getElem? (i := 21) rfl))) (Or.inr (hw _ (List.mem_of_getElem? (i := 20) rfl))) (by decide) (t := .byte) (t' := (.array .byte)) (by decide) (by decide)))).ext E12).same W16
  have z16 : n0 ≤ h16.size := Nat.le_trans z12 (Keep.of_wr W16).1
  have K16 := K12.wr W16 (Or.inl (by simp))
  have r16 : CHr Z EL T12.vm h12 T12.vm h16 := CHr.wr W16 (r12.safe (Nat.lt_of_lt_of_le Ex.lt (Nat.le_trans E5.1 (Keep.of_wr W9).1)) (r9.safe (Nat.lt_of_lt_of_le Ex.lt E5.1) (r5.safe Ex.lt (own_safe hZ.alike Ex Fv)))) R12.1
  have R16 := R12.trans r16
  obtain ⟨fs, hr, hrun, hended, hW⟩ := X16.leaveW hS12 (by rw [e16]; exact (Nat.le_trans hk12 (Keep.of_wr W16).1)) (v := none) (fun h => rfl)
  refine ⟨_, _, c17.trans (X16.returnOut hx Bd.returns (hb hby d_jdk_42_method_149_code_26) hr), hrun, hended, _, _, rfl, ?_, ?_, hW.1, hW.2.1, hW.2.2.1, hW.2.2.2.mono (by first | decide | exact Nat.le_of_ble_eq_true rfl) (by first | decide | exact Nat.le_of_ble_eq_true rfl)⟩
  · show QE Z x h0 n0 _ T16.heap _
    rw [e16]
    exact ⟨_, _, rfl, N16, K16, ⟨((((Ex.ext E5).wr W9).ext E12).wr W16), ((Fw9.ext E12).other W16 (Or.inr (slot_ne (Or.inr (hw _ (List.mem_of_getElem? (i := 20) rfl))) (Or.inr (hw _ (List.mem_of_getElem? (i := 21) rfl))) (by decide) (t := (.array .byte)) (t' := .byte) (by decide) (by decide)))), Fw16, (((Va5.other W9 (Ne.symm (Exa.neArv (Ex.ext E5) Va5 (hw _ (List.mem_of_getElem? (i := 5) rfl))))).ext E12).other W16 (Ne.symm (Exa.neArv (Ex.ext E5) Va5 (hw _ (List.mem_of_getElem? (i := 5) rfl))))), own_al0, Nat.zero_le _⟩, ((((Fh.ext E5).other W9 (Or.inr (slot_ne (Or.inl (hw _ (List.mem_of_getElem? (i := 61) rfl))) (Or.inr (hw _ (List.mem_of_getElem? (i := 20) rfl))) (by decide) (t := .int) (t' := (.array .byte)) (by decide) (by decide)))).ext E12).other W16 (Or.inr (slot_ne (Or.inl (hw _ (List.mem_of_getElem? (i := 61) rfl))) (Or.inr (hw _ (List.mem_of_getElem? (i := 21) rfl))) (by decide) (t := .int) (t' := .byte) (by decide) (by decide)))), ((((Fz.ext E5).other W9 (Or.inr (slot_ne (Or.inl (hw _ (List.mem_of_getElem? (i := 63) rfl))) (Or.inr (hw _ (List.mem_of_getElem? (i := 20) rfl))) (by decide) (t := .boolean) (t' := (.array .byte)) (by decide) (by decide)))).ext E12).other W16 (Or.inr (slot_ne (Or.inl (hw _ (List.mem_of_getElem? (i := 63) rfl))) (Or.inr (hw _ (List.mem_of_getElem? (i := 21) rfl))) (by decide) (t := .boolean) (t' := .byte) (by decide) (by decide))))⟩
  · show CHr Z EL s.vm s.heap T16.vm T16.heap
    rw [hh, e16]; exact R16.trans (CHv.at X16 hZ12 hEL R16.1)

theorem d_jdk_42_method_3_code_0 : decode jdk_42_method_3_code 0 = .ok (.aload_n 0, 1) := by decide +kernel
theorem d_jdk_42_method_3_code_1 : decode jdk_42_method_3_code 1 = .ok (.aload_n 1, 1) := by decide +kernel
theorem d_jdk_42_method_3_code_2 : decode jdk_42_method_3_code 2 = .ok (.iconst 0, 1) := by decide +kernel
theorem d_jdk_42_method_3_code_3 : decode jdk_42_method_3_code 3 = .ok (.aload_n 1, 1) := by decide +kernel
theorem d_jdk_42_method_3_code_4 : decode jdk_42_method_3_code 4 = .ok (.arraylength, 1) := by decide +kernel
theorem d_jdk_42_method_3_code_5 : decode jdk_42_method_3_code 5 = .ok (.aconst_null, 1) := by decide +kernel
theorem pd_oaCIILjavaslangsVoidecV : parseMethodDescriptor "([CIILjava/lang/Void;)V" = some ⟨[(.array .char), .int, .int, (.object "java/lang/Void")], none⟩ := by decide +kernel
theorem d_jdk_42_method_3_code_6 : decode jdk_42_method_3_code 6 = .ok (.invokespecial 27, 3) := by decide +kernel
theorem d_jdk_42_method_3_code_9 : decode jdk_42_method_3_code 9 = .ok (.return_, 1) := by decide +kernel
theorem ef_rmE1 (m : MethodId) (x0 : Addr) (x1 : Addr) : entryFrame m #[(.ref x0), (.ref x1)] 2 = mkF m 0 #[.val (.ref x0), .val (.ref x1)] [] := by first | (simp [entryFrame, mkF, argsToLocals, Value.category]; done) | rfl
set_option maxRecDepth 65536 in
set_option maxHeartbeats 40000000 in
theorem rmE1 (l : Launch) (Z : State) (a0 : Array Value) (hw : ∀ d ∈ tables_1, d.before a0 Z = true) (ws : List Jvm.Cond) (x b : Addr) (k : ClassId) (dv : Value) (h0 : Heap) (n0 : Nat) (Z0 : n0 ≤ h0.size) (g_x : n0 ≤ x) (Ex : Exa Z h0 x "java/lang/String") (Fv : Fld Z h0 x "java/lang/String" "value" "[B" .null) (Fc : Fld Z h0 x "java/lang/String" "coder" "B" (.int (0 : Int32))) (Fh : Fld Z h0 x "java/lang/String" "hash" "I" (.int (0 : Int32))) (Fz : Fld Z h0 x "java/lang/String" "hashIsZero" "Z" (.int (0 : Int32))) (Vb : Arv Z h0 b k .char (0 : Int32) [] dv) :
    MetFree l (⟨"java/lang/String", "<init>", "([C)V"⟩ : MethodName) (head1 (Jvm.Cond.code (⟨"java/lang/String", "<init>", "([C)V"⟩ : MethodName) jdk_42_method_3_code 2 (none) :: ws) ({ frames := 2, cells := 4, slots := 8, locals := 29 } : Room)) (fun aa U => aa = #[(.ref x), (.ref b)] ∧ Z.Warmed39 U.vm ∧ U.heap = h0 ∧ CHv Z EL U.vm h0) (fun _ _ _ _ _ => True) (fun _ U o U' => ∃ v L, o = .returned v ∧ QE Z x h0 n0 v U'.heap L ∧ CHr Z EL U.vm U.heap U'.vm U'.heap ∧ ReturnedEndW U o U' L ({ frames := 2, cells := 4, slots := 8, locals := 29 } : Room).cells ({ frames := 2, cells := 4, slots := 8, locals := 29 } : Room).slots) := by
  refine MetFree.of_bodySF (plainFor_of_name pn_java_lang_String) hisR ?_
  intro p e s m args below meth c s₁ Bd hml0 hP hK
  obtain ⟨rfl, hZ, hh, hCH⟩ := hP
  have hx := Bd.exec
  have hby := Bd.bytes
  have hml : c.maxLocals = 2 := hml0
  have hown : s.vm.findClass "java/lang/String" = some m.cls := findClass_of_methodNamed Bd.named
  have hnm := (name_of_methodNamed Bd.named Bd.method).1
  have X0 : Stand p l e ({ frames := 2, cells := 4, slots := 8, locals := 29 } : Room) s m #[(.ref x), (.ref b)] below meth c s₁ [] 0 0 := Stand.of_body Bd
  have e0 : s₁.heap = h0 := by rw [← hh, Bd.state]; rfl
  have N0 := Fr.nil n0
  have K0 := Keep.refl h0 [x]
  obtain ⟨S0, hS0⟩ : ∃ z, z = s₁.setTop (entryFrame m #[(.ref x), (.ref b)] 2) := ⟨_, rfl⟩
  rw [← hS0]
  have c0 : Steps p.tables e below S0 (s₁.setTop (mkF m 0 #[.val (.ref x), .val (.ref b)] [])) := by
    rw [hS0]; exact castTop (ef_rmE1 m x b) (Steps.refl _)
  have X0 : Stand p l e ({ frames := 2, cells := 4, slots := 8, locals := 29 } : Room) (s.setVm s.vm) m #[(.ref x), (.ref b)] below meth c s₁ [] 0 0 := X0
  have hS0 : s.Since s.vm 0 := own_since s
  have R0 : CHr Z EL s.vm h0 s.vm h0 := CHr.refl hCH
  have hEL := own_EW hw
  have hwS := own_strw hw
  have c1 : Steps p.tables e below S0 (s₁.setTop (mkF m 4 #[.val (.ref x), .val (.ref b)] [(.ref b), (.int (0 : Int32)), (.ref b), (.ref x)])) := c0.trans (by
    show Steps p.tables e below (s₁.setTop (mkF m 0 #[.val (.ref x), .val (.ref b)] [])) _
    refine XS.aloadN X0.here hx rfl (hb hby d_jdk_42_method_3_code_0) rfl rfl ?_
    refine XS.aloadN X0.here hx rfl (hb hby d_jdk_42_method_3_code_1) rfl rfl ?_
    refine XS.iconst X0.here hx rfl (hb hby d_jdk_42_method_3_code_2) ?_
    refine XS.aloadN X0.here hx rfl (hb hby d_jdk_42_method_3_code_3) rfl rfl ?_
    exact Steps.refl _)
  obtain ⟨cl2, Ar2, -, S2, Nn2, -, -⟩ := id Vb
  have c3 : Steps p.tables e below S0 (s₁.setTop (mkF m 6 #[.val (.ref x), .val (.ref b)] [.null, (.int (0 : Int32)), (.int (0 : Int32)), (.ref b), (.ref x)])) := c1.trans (by
    show Steps p.tables e below (s₁.setTop (mkF m 4 #[.val (.ref x), .val (.ref b)] [(.ref b), (.int (0 : Int32)), (.ref b), (.ref x)])) _
    refine X0.arraylength hx (by rw [e0]; exact Ar2.1) (State.isArrayOf_alike hZ.alike Ar2.2.1) (g := (mkF m 4 #[.val (.ref x), .val (.ref b)] [(.ref b), (.int (0 : Int32)), (.ref b), (.ref x)])) rfl rfl (hb hby d_jdk_42_method_3_code_4) _ ?_
    rw [len_of S2 Nn2]
    refine XS.aconstNull X0.here hx rfl (hb hby d_jdk_42_method_3_code_5) ?_
    exact Steps.refl _)
  obtain ⟨_, _, ⟨T4, L4, kk4, nn4⟩, -, Xx4, hSx4, hgx4, ⟨Lc4, hQ4, l4, y4, z4, r4⟩, st4⟩ := X0.specialBackS hx (y := (⟨"java/lang/String", "<init>", "([CIILjava/lang/Void;)V"⟩ : MethodName)) rfl hown (mvT hZ (hw _ (List.mem_of_getElem? (i := 11) rfl))) (mvT hZ (hw _ (List.mem_of_getElem? (i := 12) rfl))) (mvT hZ (hw _ (List.mem_of_getElem? (i := 14) rfl))) (by decide) (backOfSH (W := 0) (rmE4 l Z a0 hw [] x b h0 n0 Z0 g_x Ex Fv Fc Fh Fz) hZ (hw _ (List.mem_of_getElem? (i := 14) rfl)) (hw _ (List.mem_of_getElem? (i := 6) rfl)) (by decide) (by decide) hEL R0.1) (g := (mkF m 6 #[.val (.ref x), .val (.ref b)] [.null, (.int (0 : Int32)), (.int (0 : Int32)), (.ref b), (.ref x)])) rfl (by rw [hml]; rfl) (Steps.refl _) (a := x) (argsL := [(.ref b), (.int (0 : Int32)), (.int (0 : Int32)), .null]) (rest := []) (lenOf pd_oaCIILjavaslangsVoidecV rfl) rfl (by show 2 * 0 + _ ≤ _; exact Nat.le_of_eq rfl) (hb hby d_jdk_42_method_3_code_6) (fun _ _ => ⟨rfl, e0, (by decide : 0 + 4 ≤ _), (by decide : 0 + 8 ≤ _)⟩)
  dsimp only [Pt.U, Pt.locs, Pt.cells, Pt.slots] at Xx4 hSx4 hgx4 l4 y4 z4 r4 st4 hQ4
  subst l4 y4 z4
  obtain ⟨X4, hS4, hZ4, hown4⟩ := rebS hS0 (Nat.zero_le _) Xx4 hSx4 (e0 ▸ hgx4) hZ hown
  obtain ⟨t4, kb4, rfl, Nq4, Kq4, So4, Sh4, Sz4⟩ := hQ4
  have c5 : Steps p.tables e below S0 (T4.setTop (mkF m 9 #[.val (.ref x), .val (.ref b)] [])) := c3.trans (st4)
  have N4 := Fr.app N0 Nq4
  have z4 : n0 ≤ T4.heap.size := Nat.le_trans Z0 Kq4.1
  have K4 := K0.trans Kq4 (allS (Or.inl (by simp)) all0)
  have R4 := R0.trans r4
  obtain ⟨fs, hr, hrun, hended, hW⟩ := X4.leaveW hS4 (Nat.le_refl _) (v := none) (fun h => rfl)
  refine ⟨_, _, c5.trans (X4.returnOut hx Bd.returns (hb hby d_jdk_42_method_3_code_9) hr), hrun, hended, _, _, rfl, ?_, ?_, hW.1, hW.2.1, hW.2.2.1, hW.2.2.2.mono (by first | decide | exact Nat.le_of_ble_eq_true rfl) (by first | decide | exact Nat.le_of_ble_eq_true rfl)⟩
  · show QE Z x h0 n0 _ T4.heap _
    exact ⟨_, _, rfl, N4, K4, So4, Sh4, Sz4⟩
  · show CHr Z EL s.vm s.heap T4.vm T4.heap
    rw [hh]; exact R4.trans (CHv.at X4 hZ4 hEL R4.1)

def QrmRnn2 (Z : State) (x : Addr) (h0 : Heap) (n0 : Nat) (v : Option Value) (h : Heap) (L : List Loc) : Prop := v = some (.ref x) ∧ Fr n0 L ∧ h = h0

theorem d_jdk_31_method_11_code_0 : decode jdk_31_method_11_code 0 = .ok (.aload_n 0, 1) := by decide +kernel
theorem d_jdk_31_method_11_code_1 : decode jdk_31_method_11_code 1 = .ok (.ifnonnull 12, 3) := by decide +kernel
theorem d_jdk_31_method_11_code_13 : decode jdk_31_method_11_code 13 = .ok (.aload_n 0, 1) := by decide +kernel
theorem d_jdk_31_method_11_code_14 : decode jdk_31_method_11_code 14 = .ok (.areturn, 1) := by decide +kernel
theorem pn_java_util_Objects : plainName "java/util/Objects" = true := by first | (simp [plainName, overriddenIn]; done) | decide +kernel
theorem ef_rmRnn2 (m : MethodId) (x0 : Addr) (x1 : Addr) : entryFrame m #[(.ref x0), (.ref x1)] 2 = mkF m 0 #[.val (.ref x0), .val (.ref x1)] [] := by first | (simp [entryFrame, mkF, argsToLocals, Value.category]; done) | rfl
set_option maxRecDepth 65536 in
set_option maxHeartbeats 40000000 in
theorem rmRnn2 (l : Launch) (Z : State) (a0 : Array Value) (hw : ∀ d ∈ tables_1, d.before a0 Z = true) (ws : List Jvm.Cond) (x ms : Addr) (h0 : Heap) (n0 : Nat) (Z0 : n0 ≤ h0.size)  :
    MetFree l (⟨"java/util/Objects", "requireNonNull", "(Ljava/lang/Object;Ljava/lang/String;)Ljava/lang/Object;"⟩ : MethodName) (head1 (Jvm.Cond.code (⟨"java/util/Objects", "requireNonNull", "(Ljava/lang/Object;Ljava/lang/String;)Ljava/lang/Object;"⟩ : MethodName) jdk_31_method_11_code 2 (some (.object "java/lang/Object")) :: ws) ({ frames := 0, cells := 0, slots := 0, locals := 0 } : Room)) (fun aa U => aa = #[(.ref x), (.ref ms)] ∧ Z.Warmed39 U.vm ∧ U.heap = h0) (fun _ _ _ _ _ => True) (fun _ U o U' => ∃ v L, o = .returned v ∧ QrmRnn2 Z x h0 n0 v U'.heap L ∧ FrameEnd U o U' L ({ frames := 0, cells := 0, slots := 0, locals := 0 } : Room).cells ({ frames := 0, cells := 0, slots := 0, locals := 0 } : Room).slots) := by
  refine MetFree.of_bodySF (plainFor_of_name pn_java_util_Objects) hisR ?_
  intro p e s m args below meth c s₁ Bd hml0 hP hK
  obtain ⟨rfl, hZ, hh⟩ := hP
  have hx := Bd.exec
  have hby := Bd.bytes
  have hml : c.maxLocals = 2 := hml0
  have hown : s.vm.findClass "java/util/Objects" = some m.cls := findClass_of_methodNamed Bd.named
  have hnm := (name_of_methodNamed Bd.named Bd.method).1
  have X0 : Stand p l e ({ frames := 0, cells := 0, slots := 0, locals := 0 } : Room) s m #[(.ref x), (.ref ms)] below meth c s₁ [] 0 0 := Stand.of_body Bd
  have e0 : s₁.heap = h0 := by rw [← hh, Bd.state]; rfl
  have N0 := Fr.nil n0
  have K0 := Keep.refl h0 []
  obtain ⟨S0, hS0⟩ : ∃ z, z = s₁.setTop (entryFrame m #[(.ref x), (.ref ms)] 2) := ⟨_, rfl⟩
  rw [← hS0]
  have c0 : Steps p.tables e below S0 (s₁.setTop (mkF m 0 #[.val (.ref x), .val (.ref ms)] [])) := by
    rw [hS0]; exact castTop (ef_rmRnn2 m x ms) (Steps.refl _)
  have c1 : Steps p.tables e below S0 (s₁.setTop (mkF m 14 #[.val (.ref x), .val (.ref ms)] [(.ref x)])) := c0.trans (by
    show Steps p.tables e below (s₁.setTop (mkF m 0 #[.val (.ref x), .val (.ref ms)] [])) _
    refine XS.aloadN X0.here hx rfl (hb hby d_jdk_31_method_11_code_0) rfl rfl ?_
    refine XS.ifnonnullYes X0.here hx rfl (pc0 := 1) (pc' := 13) rfl (hb hby d_jdk_31_method_11_code_1) rfl (by decide) (by decide) ?_
    refine XS.aloadN X0.here hx rfl (hb hby d_jdk_31_method_11_code_13) rfl rfl ?_
    exact Steps.refl _)
  obtain ⟨fs, hr, hrun, hended, hW, hsame⟩ := X0.leave (v := some (.ref x)) (fun h => by rw [Bd.returns] at h; cases h)
  refine ⟨_, _, c1.trans (retOut X0 hx Bd.returns rfl (Or.inr (Or.inr (Or.inr (Or.inr ⟨rfl, rfl, rfl⟩)))) (hb hby d_jdk_31_method_11_code_14) hr), hrun, hended, _, _, rfl, ?_, ⟨_, rfl⟩, hW, hsame.mono (by first | decide | exact Nat.le_of_ble_eq_true rfl) (by first | decide | exact Nat.le_of_ble_eq_true rfl)⟩
  show QrmRnn2 Z x h0 n0 _ s₁.heap _
  rw [e0]
  exact ⟨rfl, N0, rfl⟩

def own_mk (len c d : Int32) : List Int32 := if len = 0 then [] else if len = 1 then [c] else [c, d]

def QMk (Z : State) (cs : List Int32) (h0 : Heap) (n0 : Nat) (v : Option Value) (h : Heap) (L : List Loc) : Prop := ∃ (x t : Addr) (kb : ClassId), v = some (.ref x) ∧ Fr n0 L ∧ Keep h0 h [] ∧ h0.size ≤ x ∧ OStrH Z h x t kb cs

theorem d_method_2_code_0 : decode method_2_code 0 = .ok (.iload_n 0, 1) := by decide +kernel
theorem d_method_2_code_1 : decode method_2_code 1 = .ok (.ifCond .ne 14, 3) := by decide +kernel
theorem d_method_2_code_4 : decode method_2_code 4 = .ok (.new 7, 3) := by decide +kernel
theorem d_method_2_code_7 : decode method_2_code 7 = .ok (.dup, 1) := by decide +kernel
theorem d_method_2_code_8 : decode method_2_code 8 = .ok (.iconst 0, 1) := by decide +kernel
theorem d_method_2_code_9 : decode method_2_code 9 = .ok (.newarray .char, 2) := by decide +kernel
theorem pd_oaCcV : parseMethodDescriptor "([C)V" = some ⟨[(.array .char)], none⟩ := by decide +kernel
theorem d_method_2_code_11 : decode method_2_code 11 = .ok (.invokespecial 9, 3) := by decide +kernel
theorem d_method_2_code_14 : decode method_2_code 14 = .ok (.areturn, 1) := by decide +kernel
theorem d_method_2_code_15 : decode method_2_code 15 = .ok (.iload_n 0, 1) := by decide +kernel
theorem d_method_2_code_16 : decode method_2_code 16 = .ok (.iconst 1, 1) := by decide +kernel
theorem d_method_2_code_17 : decode method_2_code 17 = .ok (.if_icmp .ne 19, 3) := by decide +kernel
theorem d_method_2_code_20 : decode method_2_code 20 = .ok (.new 7, 3) := by decide +kernel
theorem d_method_2_code_23 : decode method_2_code 23 = .ok (.dup, 1) := by decide +kernel
theorem d_method_2_code_24 : decode method_2_code 24 = .ok (.iconst 1, 1) := by decide +kernel
theorem d_method_2_code_25 : decode method_2_code 25 = .ok (.newarray .char, 2) := by decide +kernel
theorem d_method_2_code_27 : decode method_2_code 27 = .ok (.dup, 1) := by decide +kernel
theorem d_method_2_code_28 : decode method_2_code 28 = .ok (.iconst 0, 1) := by decide +kernel
theorem d_method_2_code_29 : decode method_2_code 29 = .ok (.iload_n 1, 1) := by decide +kernel
theorem d_method_2_code_30 : decode method_2_code 30 = .ok (.i2c, 1) := by decide +kernel
theorem d_method_2_code_31 : decode method_2_code 31 = .ok (.castore, 1) := by decide +kernel
theorem d_method_2_code_32 : decode method_2_code 32 = .ok (.invokespecial 9, 3) := by decide +kernel
theorem d_method_2_code_35 : decode method_2_code 35 = .ok (.areturn, 1) := by decide +kernel
theorem d_method_2_code_36 : decode method_2_code 36 = .ok (.new 7, 3) := by decide +kernel
theorem d_method_2_code_39 : decode method_2_code 39 = .ok (.dup, 1) := by decide +kernel
theorem d_method_2_code_40 : decode method_2_code 40 = .ok (.iconst 2, 1) := by decide +kernel
theorem d_method_2_code_41 : decode method_2_code 41 = .ok (.newarray .char, 2) := by decide +kernel
theorem d_method_2_code_43 : decode method_2_code 43 = .ok (.dup, 1) := by decide +kernel
theorem d_method_2_code_44 : decode method_2_code 44 = .ok (.iconst 0, 1) := by decide +kernel
theorem d_method_2_code_45 : decode method_2_code 45 = .ok (.iload_n 1, 1) := by decide +kernel
theorem d_method_2_code_46 : decode method_2_code 46 = .ok (.i2c, 1) := by decide +kernel
theorem d_method_2_code_47 : decode method_2_code 47 = .ok (.castore, 1) := by decide +kernel
theorem d_method_2_code_48 : decode method_2_code 48 = .ok (.dup, 1) := by decide +kernel
theorem d_method_2_code_49 : decode method_2_code 49 = .ok (.iconst 1, 1) := by decide +kernel
theorem d_method_2_code_50 : decode method_2_code 50 = .ok (.iload_n 2, 1) := by decide +kernel
theorem d_method_2_code_51 : decode method_2_code 51 = .ok (.i2c, 1) := by decide +kernel
theorem d_method_2_code_52 : decode method_2_code 52 = .ok (.castore, 1) := by decide +kernel
theorem d_method_2_code_53 : decode method_2_code 53 = .ok (.invokespecial 9, 3) := by decide +kernel
theorem d_method_2_code_56 : decode method_2_code 56 = .ok (.areturn, 1) := by decide +kernel
theorem pn_com_example_evenkeel_evenkeel_RouteEqualsPinLaw : plainName "com/example/evenkeel/evenkeel/RouteEqualsPinLaw" = true := by first | (simp [plainName, overriddenIn]; done) | decide +kernel
theorem ef_rmMk (m : MethodId) (x0 : Int32) (x1 : Int32) (x2 : Int32) : entryFrame m #[(.int x0), (.int x1), (.int x2)] 3 = mkF m 0 #[.val (.int x0), .val (.int x1), .val (.int x2)] [] := by first | (simp [entryFrame, mkF, argsToLocals, Value.category]; done) | rfl
set_option maxRecDepth 65536 in
set_option maxHeartbeats 40000000 in
theorem rmMk (l : Launch) (Z : State) (a0 : Array Value) (hw : ∀ d ∈ tables_1, d.before a0 Z = true) (ws : List Jvm.Cond) (p0 p1 p2 : Int32) (G1 : Int32) (h0 : Heap) (n0 : Nat) (Z0 : n0 ≤ h0.size) (h8p1 : C8 p1) (h8p2 : C8 p2) (O2 : Sta Z Z.heap "java/lang/String" "COMPACT_STRINGS" "Z" (.int G1)) (P5 : ¬ G1 = 0) (X00 : Old Z n0 h0) :
    MetFree l (⟨"com/example/evenkeel/evenkeel/RouteEqualsPinLaw", "mk", "(III)Ljava/lang/String;"⟩ : MethodName) (head1 (Jvm.Cond.code (⟨"com/example/evenkeel/evenkeel/RouteEqualsPinLaw", "mk", "(III)Ljava/lang/String;"⟩ : MethodName) method_2_code 3 (some (.object "java/lang/String")) :: ws) ({ frames := 4, cells := 6, slots := 12, locals := 66 } : Room)) (fun aa U => aa = #[(.int p0), (.int p1), (.int p2)] ∧ Z.Warmed39 U.vm ∧ U.heap = h0 ∧ CHv Z EL U.vm h0) (fun _ _ _ _ _ => True) (fun _ U o U' => ∃ v L, o = .returned v ∧ QMk Z (own_mk p0 p1 p2) h0 n0 v U'.heap L ∧ CHr Z EL U.vm U.heap U'.vm U'.heap ∧ ReturnedEndW U o U' L ({ frames := 4, cells := 6, slots := 12, locals := 66 } : Room).cells ({ frames := 4, cells := 6, slots := 12, locals := 66 } : Room).slots) := by
  refine MetFree.of_bodySF (plainFor_of_name pn_com_example_evenkeel_evenkeel_RouteEqualsPinLaw) hisR ?_
  intro p e s m args below meth c s₁ Bd hml0 hP hK
  obtain ⟨rfl, hZ, hh, hCH⟩ := hP
  have hx := Bd.exec
  have hby := Bd.bytes
  have hml : c.maxLocals = 3 := hml0
  have hown : s.vm.findClass "com/example/evenkeel/evenkeel/RouteEqualsPinLaw" = some m.cls := findClass_of_methodNamed Bd.named
  have hnm := (name_of_methodNamed Bd.named Bd.method).1
  have X0 : Stand p l e ({ frames := 4, cells := 6, slots := 12, locals := 66 } : Room) s m #[(.int p0), (.int p1), (.int p2)] below meth c s₁ [] 0 0 := Stand.of_body Bd
  have e0 : s₁.heap = h0 := by rw [← hh, Bd.state]; rfl
  have N0 := Fr.nil n0
  have K0 := Keep.refl h0 []
  obtain ⟨S0, hS0⟩ : ∃ z, z = s₁.setTop (entryFrame m #[(.int p0), (.int p1), (.int p2)] 3) := ⟨_, rfl⟩
  rw [← hS0]
  have c0 : Steps p.tables e below S0 (s₁.setTop (mkF m 0 #[.val (.int p0), .val (.int p1), .val (.int p2)] [])) := by
    rw [hS0]; exact castTop (ef_rmMk m p0 p1 p2) (Steps.refl _)
  have X0 : Stand p l e ({ frames := 4, cells := 6, slots := 12, locals := 66 } : Room) (s.setVm s.vm) m #[(.int p0), (.int p1), (.int p2)] below meth c s₁ [] 0 0 := X0
  have hS0 : s.Since s.vm 0 := own_since s
  have R0 : CHr Z EL s.vm h0 s.vm h0 := CHr.refl hCH
  have hEL := own_EW hw
  have hwS := own_strw hw
  have c1 : Steps p.tables e below S0 (s₁.setTop (mkF m 1 #[.val (.int p0), .val (.int p1), .val (.int p2)] [(.int p0)])) := c0.trans (by
    show Steps p.tables e below (s₁.setTop (mkF m 0 #[.val (.int p0), .val (.int p1), .val (.int p2)] [])) _
    refine XS.iloadN X0.here hx rfl (hb hby d_method_2_code_0) rfl ?_
    exact Steps.refl _)
  by_cases hq2 : p0 = (0 : Int32)
  · have c3 : Steps p.tables e below S0 (s₁.setTop (mkF m 4 #[.val (.int p0), .val (.int p1), .val (.int p2)] [])) := c1.trans (by
      show Steps p.tables e below (s₁.setTop (mkF m 1 #[.val (.int p0), .val (.int p1), .val (.int p2)] [(.int p0)])) _
      refine XS.ifNo X0.here hx rfl (hb hby d_method_2_code_1) rfl ((if0 _ _).trans (teq hq2).2) ?_
      exact Steps.refl _)
    obtain ⟨T4, h4, X4, e4, E4, A4, D4, -, st4⟩ := newO X0 hx hZ hown (hw _ (List.mem_of_getElem? (i := 4) rfl)) (hw _ (List.mem_of_getElem? (i := 5) rfl)) (hw _ (List.mem_of_getElem? (i := 6) rfl)) e0 (g := (mkF m 4 #[.val (.int p0), .val (.int p1), .val (.int p2)] [])) rfl (hb hby d_method_2_code_4) (by decide) (by decide)
    obtain ⟨b4, g4⟩ : ∃ z, z = h0.size := ⟨_, rfl⟩
    rw [← g4] at A4 D4 st4
    have sn4 : Safe Z EL s.vm h0 b4 := Safe.new (Nat.le_of_eq g4.symm)
    have c5 : Steps p.tables e below S0 (T4.setTop (mkF m 7 #[.val (.int p0), .val (.int p1), .val (.int p2)] [(.ref b4)])) := c3.trans (st4 _ (Steps.refl _))
    have z4 : n0 ≤ h4.size := Nat.le_trans Z0 E4.1
    have K4 := K0.ext E4
    have r4 : CHr Z EL s.vm h0 s.vm h4 := CHr.ext E4 R0.1
    have R4 := R0.trans r4
    have lt_b4 : b4 < h4.size := A4.lt
    have sf4 : Safe Z EL s.vm h4 b4 := Safe.ext E4 R0.1 sn4
    have F4_value : Fld Z h4 b4 "java/lang/String" "value" "[B" .null := D4 (Or.inr (hw _ (List.mem_of_getElem? (i := 20) rfl))) (ty := (.array .byte)) (by decide)
    have F4_coder : Fld Z h4 b4 "java/lang/String" "coder" "B" (.int (0 : Int32)) := D4 (Or.inr (hw _ (List.mem_of_getElem? (i := 21) rfl))) (ty := .byte) (by decide)
    have F4_hash : Fld Z h4 b4 "java/lang/String" "hash" "I" (.int (0 : Int32)) := D4 (Or.inl (hw _ (List.mem_of_getElem? (i := 61) rfl))) (ty := .int) (by decide)
    have F4_hashIsZero : Fld Z h4 b4 "java/lang/String" "hashIsZero" "Z" (.int (0 : Int32)) := D4 (Or.inl (hw _ (List.mem_of_getElem? (i := 63) rfl))) (ty := .boolean) (by decide)
    have c6 : Steps p.tables e below S0 (T4.setTop (mkF m 9 #[.val (.int p0), .val (.int p1), .val (.int p2)] [(.int (0 : Int32)), (.ref b4), (.ref b4)])) := c5.trans (by
      show Steps p.tables e below (T4.setTop (mkF m 7 #[.val (.int p0), .val (.int p1), .val (.int p2)] [(.ref b4)])) _
      refine XS.dup X4.here hx rfl (hb hby d_method_2_code_7) rfl rfl ?_
      refine XS.iconst X4.here hx rfl (hb hby d_method_2_code_8) ?_
      exact Steps.refl _)
    obtain ⟨T7, h7, k7, X7, e7, E7, A7, st7⟩ := newP X4 hx hZ (hw _ (List.mem_of_getElem? (i := 7) rfl)) e4 (g := (mkF m 9 #[.val (.int p0), .val (.int p1), .val (.int p2)] [(.int (0 : Int32)), (.ref b4), (.ref b4)])) rfl (hb hby d_method_2_code_9) rfl (by decide) (cap := 0) (by decide) (by decide) (by decide) (by decide)
    obtain ⟨b7, g7⟩ : ∃ z, z = h4.size := ⟨_, rfl⟩
    rw [← g7] at A7 st7
    have c8 : Steps p.tables e below S0 (T7.setTop (mkF m 11 #[.val (.int p0), .val (.int p1), .val (.int p2)] [(.ref b7), (.ref b4), (.ref b4)])) := c6.trans (st7 _ (Steps.refl _))
    have z7 : n0 ≤ h7.size := Nat.le_trans z4 E7.1
    have K7 := K4.ext E7
    have r7 : CHr Z EL s.vm h4 s.vm h7 := CHr.ext E7 R4.1
    have R7 := R4.trans r7
    have V7 : Arv Z h7 b7 k7 .char (0 : Int32) [] (.int (0 : Int32)) := (Arv.new A7 (by decide)).pad (pad_rep [] (.int (0 : Int32)) 0)
    have lt_b7 : b7 < h7.size := V7.lt
    obtain ⟨_, _, ⟨T9, L9, kk9, nn9⟩, -, Xx9, hSx9, hgx9, ⟨Lc9, hQ9, l9, y9, z9, r9⟩, st9⟩ := X7.specialBackS hx (y := (⟨"java/lang/String", "<init>", "([C)V"⟩ : MethodName)) rfl hown (mvT hZ (hw _ (List.mem_of_getElem? (i := 8) rfl))) (mvT hZ (hw _ (List.mem_of_getElem? (i := 9) rfl))) (mvT hZ (hw _ (List.mem_of_getElem? (i := 10) rfl))) (by decide) (backOfSH (W := 1) (rmE1 l Z a0 hw [] b4 b7 _ _ h7 n0 z7 (Nat.le_trans Z0 (Nat.le_trans K0.1 (Nat.le_of_eq g4.symm))) (A4.ext E7) (F4_value.ext E7) (F4_coder.ext E7) (F4_hash.ext E7) (F4_hashIsZero.ext E7) V7) hZ (hw _ (List.mem_of_getElem? (i := 10) rfl)) (hw _ (List.mem_of_getElem? (i := 6) rfl)) (by decide) (by decide) hEL R7.1) (g := (mkF m 11 #[.val (.int p0), .val (.int p1), .val (.int p2)] [(.ref b7), (.ref b4), (.ref b4)])) rfl (by rw [hml]; rfl) (Steps.refl _) (a := b4) (argsL := [(.ref b7)]) (rest := [(.ref b4)]) (lenOf pd_oaCcV rfl) rfl (by show 2 * 0 + _ ≤ _; exact Nat.le_of_eq rfl) (hb hby d_method_2_code_11) (fun _ _ => ⟨rfl, e7, (by decide : 2 + 4 ≤ _), (by decide : 4 + 8 ≤ _)⟩)
    dsimp only [Pt.U, Pt.locs, Pt.cells, Pt.slots] at Xx9 hSx9 hgx9 l9 y9 z9 r9 st9 hQ9
    subst l9 y9 z9
    obtain ⟨X9, hS9, hZ9, hown9⟩ := rebS hS0 (Nat.le_trans (Nat.zero_le _) (Nat.le_trans E4.1 E7.1)) Xx9 hSx9 (e7 ▸ hgx9) hZ hown
    obtain ⟨t9, kb9, rfl, Nq9, Kq9, So9, Sh9, Sz9⟩ := hQ9
    have c10 : Steps p.tables e below S0 (T9.setTop (mkF m 14 #[.val (.int p0), .val (.int p1), .val (.int p2)] [(.ref b4)])) := c8.trans (st9)
    have N9 := Fr.app N0 Nq9
    have z9 : n0 ≤ T9.heap.size := Nat.le_trans z7 Kq9.1
    have K9 := K7.trans Kq9 (allS (Or.inr (Nat.le_trans K0.1 (Nat.le_of_eq g4.symm))) all0)
    have R9 := R7.trans r9
    have lt_t9 := So9.2.2.2.1.lt
    obtain ⟨fs, hr, hrun, hended, hW⟩ := X9.leaveW hS9 (Nat.le_refl _) (v := some (.ref b4)) (fun h => by rw [Bd.returns] at h; cases h)
    refine ⟨_, _, c10.trans (retOut X9 hx Bd.returns rfl (Or.inr (Or.inr (Or.inr (Or.inr ⟨rfl, rfl, rfl⟩)))) (hb hby d_method_2_code_14) hr), hrun, hended, _, _, rfl, ?_, ?_, hW.1, hW.2.1, hW.2.2.1, hW.2.2.2.mono (by first | decide | exact Nat.le_of_ble_eq_true rfl) (by first | decide | exact Nat.le_of_ble_eq_true rfl)⟩
    · show QMk Z (own_mk p0 p1 p2) h0 n0 _ T9.heap _
      have So : OStrH Z T9.heap b4 t9 _ ([] : List Int32) := ⟨⟨So9.1, So9.2.1, So9.2.2.1, So9.2.2.2.1, So9.2.2.2.2.1, So9.2.2.2.2.2⟩, Sh9, Sz9, (fun q => absurd q (by decide))⟩
      exact ⟨_, _, _, rfl, N9, K9, (Nat.le_trans K0.1 (Nat.le_of_eq g4.symm)), by rw [own_mk, if_pos hq2]; exact So⟩
    · show CHr Z EL s.vm s.heap T9.vm T9.heap
      rw [hh]; exact R9.trans (CHv.at X9 hZ9 hEL R9.1)
  · have c11 : Steps p.tables e below S0 (s₁.setTop (mkF m 17 #[.val (.int p0), .val (.int p1), .val (.int p2)] [(.int (1 : Int32)), (.int p0)])) := c1.trans (by
      show Steps p.tables e below (s₁.setTop (mkF m 1 #[.val (.int p0), .val (.int p1), .val (.int p2)] [(.int p0)])) _
      refine XS.ifYes X0.here hx rfl (pc0 := 1) (pc' := 15) rfl (hb hby d_method_2_code_1) rfl ((if0 _ _).trans (feq hq2).2) (by decide) (by decide) ?_
      refine XS.iloadN X0.here hx rfl (hb hby d_method_2_code_15) rfl ?_
      refine XS.iconst X0.here hx rfl (hb hby d_method_2_code_16) ?_
      exact Steps.refl _)
    by_cases hq12 : p0 = (1 : Int32)
    · have c13 : Steps p.tables e below S0 (s₁.setTop (mkF m 20 #[.val (.int p0), .val (.int p1), .val (.int p2)] [])) := c11.trans (by
        show Steps p.tables e below (s₁.setTop (mkF m 17 #[.val (.int p0), .val (.int p1), .val (.int p2)] [(.int (1 : Int32)), (.int p0)])) _
        refine XS.icmpNo X0.here hx rfl (hb hby d_method_2_code_17) rfl (teq hq12).2 ?_
        exact Steps.refl _)
      obtain ⟨T14, h14, X14, e14, E14, A14, D14, -, st14⟩ := newO X0 hx hZ hown (hw _ (List.mem_of_getElem? (i := 4) rfl)) (hw _ (List.mem_of_getElem? (i := 5) rfl)) (hw _ (List.mem_of_getElem? (i := 6) rfl)) e0 (g := (mkF m 20 #[.val (.int p0), .val (.int p1), .val (.int p2)] [])) rfl (hb hby d_method_2_code_20) (by decide) (by decide)
      obtain ⟨b14, g14⟩ : ∃ z, z = h0.size := ⟨_, rfl⟩
      rw [← g14] at A14 D14 st14
      have sn14 : Safe Z EL s.vm h0 b14 := Safe.new (Nat.le_of_eq g14.symm)
      have c15 : Steps p.tables e below S0 (T14.setTop (mkF m 23 #[.val (.int p0), .val (.int p1), .val (.int p2)] [(.ref b14)])) := c13.trans (st14 _ (Steps.refl _))
      have z14 : n0 ≤ h14.size := Nat.le_trans Z0 E14.1
      have K14 := K0.ext E14
      have r14 : CHr Z EL s.vm h0 s.vm h14 := CHr.ext E14 R0.1
      have R14 := R0.trans r14
      have lt_b14 : b14 < h14.size := A14.lt
      have sf14 : Safe Z EL s.vm h14 b14 := Safe.ext E14 R0.1 sn14
      have F14_value : Fld Z h14 b14 "java/lang/String" "value" "[B" .null := D14 (Or.inr (hw _ (List.mem_of_getElem? (i := 20) rfl))) (ty := (.array .byte)) (by decide)
      have F14_coder : Fld Z h14 b14 "java/lang/String" "coder" "B" (.int (0 : Int32)) := D14 (Or.inr (hw _ (List.mem_of_getElem? (i := 21) rfl))) (ty := .byte) (by decide)
      have F14_hash : Fld Z h14 b14 "java/lang/String" "hash" "I" (.int (0 : Int32)) := D14 (Or.inl (hw _ (List.mem_of_getElem? (i := 61) rfl))) (ty := .int) (by decide)
      have F14_hashIsZero : Fld Z h14 b14 "java/lang/String" "hashIsZero" "Z" (.int (0 : Int32)) := D14 (Or.inl (hw _ (List.mem_of_getElem? (i := 63) rfl))) (ty := .boolean) (by decide)
      have c16 : Steps p.tables e below S0 (T14.setTop (mkF m 25 #[.val (.int p0), .val (.int p1), .val (.int p2)] [(.int (1 : Int32)), (.ref b14), (.ref b14)])) := c15.trans (by
        show Steps p.tables e below (T14.setTop (mkF m 23 #[.val (.int p0), .val (.int p1), .val (.int p2)] [(.ref b14)])) _
        refine XS.dup X14.here hx rfl (hb hby d_method_2_code_23) rfl rfl ?_
        refine XS.iconst X14.here hx rfl (hb hby d_method_2_code_24) ?_
        exact Steps.refl _)
      obtain ⟨T17, h17, k17, X17, e17, E17, A17, st17⟩ := newP X14 hx hZ (hw _ (List.mem_of_getElem? (i := 7) rfl)) e14 (g := (mkF m 25 #[.val (.int p0), .val (.int p1), .val (.int p2)] [(.int (1 : Int32)), (.ref b14), (.ref b14)])) rfl (hb hby d_method_2_code_25) rfl (by decide) (cap := 1) (by decide) (by decide) (by decide) (by decide)
      obtain ⟨b17, g17⟩ : ∃ z, z = h14.size := ⟨_, rfl⟩
      rw [← g17] at A17 st17
      have c18 : Steps p.tables e below S0 (T17.setTop (mkF m 27 #[.val (.int p0), .val (.int p1), .val (.int p2)] [(.ref b17), (.ref b14), (.ref b14)])) := c16.trans (st17 _ (Steps.refl _))
      have z17 : n0 ≤ h17.size := Nat.le_trans z14 E17.1
      have K17 := K14.ext E17
      have r17 : CHr Z EL s.vm h14 s.vm h17 := CHr.ext E17 R14.1
      have R17 := R14.trans r17
      have V17 : Arv Z h17 b17 k17 .char (1 : Int32) [(.int (0 : Int32))] (.int (0 : Int32)) := (Arv.new A17 (by decide)).pad (pad_rep [] (.int (0 : Int32)) 1)
      have lt_b17 : b17 < h17.size := V17.lt
      have c19 : Steps p.tables e below S0 (T17.setTop (mkF m 31 #[.val (.int p0), .val (.int p1), .val (.int p2)] [(.int (p1.toUInt32.toUInt16.toUInt32.toInt32)), (.int (0 : Int32)), (.ref b17), (.ref b17), (.ref b14), (.ref b14)])) := c18.trans (by
        show Steps p.tables e below (T17.setTop (mkF m 27 #[.val (.int p0), .val (.int p1), .val (.int p2)] [(.ref b17), (.ref b14), (.ref b14)])) _
        refine XS.dup X17.here hx rfl (hb hby d_method_2_code_27) rfl rfl ?_
        refine XS.iconst X17.here hx rfl (hb hby d_method_2_code_28) ?_
        refine XS.iloadN X17.here hx rfl (hb hby d_method_2_code_29) rfl ?_
        refine XS.i2c X17.here hx rfl (hb hby d_method_2_code_30) rfl ?_
        exact Steps.refl _)
      rw [(own_i2c (own_up1 h8p1).1 (own_up1 h8p1).2)] at c19
      obtain ⟨cl20, Ar20, q20, S20, Nn20, Ha20, G20⟩ := id V17
      obtain ⟨T20, h20, X20, e20, W20, st20⟩ := stC X17 hx hZ e17 Ar20 (j := (0 : Int32)) (inb_of S20 ⟨by decide, by decide⟩) (g := (mkF m 31 #[.val (.int p0), .val (.int p1), .val (.int p2)] [(.int p1), (.int (0 : Int32)), (.ref b17), (.ref b17), (.ref b14), (.ref b14)])) rfl rfl (hb hby d_method_2_code_31)
      have V20 : Arv Z h20 b17 k17 .char (1 : Int32) [(.int (nar .char p1))] (.int (0 : Int32)) := Arv.set Ar20 q20 S20 Nn20 Ha20 G20 (fits_nar_char _) W20 0 rfl (Nat.le_of_ble_eq_true rfl)
      have c21 : Steps p.tables e below S0 (T20.setTop (mkF m 32 #[.val (.int p0), .val (.int p1), .val (.int p2)] [(.ref b17), (.ref b14), (.ref b14)])) := c19.trans (st20 _ (Steps.refl _))
      have N20 := Fr.snoc X20 N0 (Nat.le_trans Z0 (Nat.le_trans K14.1 (Nat.le_of_eq g17.symm)))
      have z20 : n0 ≤ h20.size := Nat.le_trans z17 (Keep.of_wr W20).1
      have K20 := K17.wr W20 (Or.inr (Nat.le_trans K14.1 (Nat.le_of_eq g17.symm)))
      have r20 : CHr Z EL s.vm h17 s.vm h20 := CHr.wr W20 (Safe.arv hZ.alike V17 (by decide)) R17.1
      have R20 := R17.trans r20
      have hp22 : ∀ c ∈ ([(nar .char p1)] : List Int32), ¬ c < 0 ∧ ¬ (255 : Int32) < c := (own_alS (own_c8n h8p1) own_al0)
      have hws22 : ∀ d ∈ StrChars.Road.words, d.before a0 Z = true := fun d hd => hw d (own_in_words d hd)
      obtain ⟨_, _, ⟨T23, L23, kk23, nn23⟩, -, X23, ⟨Lc23, hQ23, l23, y23, z23⟩, st23⟩ := X20.specialBack hx (y := (⟨"java/lang/String", "<init>", "([C)V"⟩ : MethodName)) rfl hown (mvT hZ (hw _ (List.mem_of_getElem? (i := 8) rfl))) (mvT hZ (hw _ (List.mem_of_getElem? (i := 9) rfl))) (mvT hZ (hw _ (List.mem_of_getElem? (i := 10) rfl))) (by decide) (StrChars.Road.backArv (W := 1) hZ hws22 (kI := 4) (hw _ (List.mem_of_getElem? (i := 5) rfl)) (cs := ([(nar .char p1)] : List Int32)) ((A14.ext E17).wr W20) ((F14_value.ext E17).other W20 (Or.inl (Nat.ne_of_lt (Nat.lt_of_lt_of_le lt_b14 (Nat.le_of_eq g17.symm))))) ((F14_coder.ext E17).other W20 (Or.inl (Nat.ne_of_lt (Nat.lt_of_lt_of_le lt_b14 (Nat.le_of_eq g17.symm))))) V20 (O2.ext (((X00.ext E14).ext E17).wr W20 (Nat.le_trans Z0 (Nat.le_trans K14.1 (Nat.le_of_eq g17.symm)))).2) P5 rfl (by show 0 < 1; decide) (by show 1 ≤ _; decide) (fun c hc => (hp22 c hc).2) (by decide) (by decide)) (g := (mkF m 32 #[.val (.int p0), .val (.int p1), .val (.int p2)] [(.ref b17), (.ref b14), (.ref b14)])) rfl (by rw [hml]; rfl) (Steps.refl _) (a := b14) (argsL := [(.ref b17)]) (rest := [(.ref b14)]) (lenOf pd_oaCcV rfl) rfl (by show 2 * 0 + _ ≤ _; exact Nat.le_of_eq rfl) (hb hby d_method_2_code_32) (fun _ _ => ⟨rfl, e20, (by decide : 2 + 1 ≤ _), (by decide : 5 + 1 ≤ _)⟩)
      dsimp only [Pt.U, Pt.locs, Pt.cells, Pt.slots] at X23 l23 y23 z23 st23 hQ23
      subst l23 y23 z23
      obtain ⟨rfl, Lb23, Kq23, hsz23, Ex23, Fv23, Fc23, ⟨kb23, fk23, Va23⟩, hre23⟩ := hQ23
      have c24 : Steps p.tables e below S0 (T23.setTop (mkF m 35 #[.val (.int p0), .val (.int p1), .val (.int p2)] [(.ref b14)])) := c21.trans (st23)
      have N23 := Fr.app N20 (fun y hy => Lb23 y hy ▸ (Nat.le_trans Z0 (Nat.le_trans K0.1 (Nat.le_of_eq g14.symm))) : Fr n0 _)
      obtain ⟨t23, gt23⟩ : ∃ z, z = h20.size := ⟨_, rfl⟩
      rw [← gt23] at Fv23 Va23
      have z23 : n0 ≤ T23.heap.size := Nat.le_trans z20 Kq23.1
      have K23 := K20.trans Kq23 (allS (Or.inr (Nat.le_trans K0.1 (Nat.le_of_eq g14.symm))) all0)
      have r23 : CHr Z EL s.vm h20 s.vm T23.heap := CHr.keep Kq23 (sfS (r20.safe (Nat.lt_of_lt_of_le lt_b14 E17.1) (r17.safe lt_b14 sf14)) sf0) R20.1
      have R23 := R20.trans r23
      have lt_t23 : t23 < T23.heap.size := Va23.lt
      have Fh23_hash := hre23 _ _ _ _ ((F14_hash.ext E17).other W20 (Or.inl (Nat.ne_of_lt (Nat.lt_of_lt_of_le lt_b14 (Nat.le_of_eq g17.symm))))) (slot_ne (Or.inl (hw _ (List.mem_of_getElem? (i := 61) rfl))) (Or.inr (hw _ (List.mem_of_getElem? (i := 20) rfl))) (by decide) (t := .int) (t' := (.array .byte)) (by decide) (by decide)) (slot_ne (Or.inl (hw _ (List.mem_of_getElem? (i := 61) rfl))) (Or.inr (hw _ (List.mem_of_getElem? (i := 21) rfl))) (by decide) (t := .int) (t' := .byte) (by decide) (by decide))
      have Fh23_hashIsZero := hre23 _ _ _ _ ((F14_hashIsZero.ext E17).other W20 (Or.inl (Nat.ne_of_lt (Nat.lt_of_lt_of_le lt_b14 (Nat.le_of_eq g17.symm))))) (slot_ne (Or.inl (hw _ (List.mem_of_getElem? (i := 63) rfl))) (Or.inr (hw _ (List.mem_of_getElem? (i := 20) rfl))) (by decide) (t := .boolean) (t' := (.array .byte)) (by decide) (by decide)) (slot_ne (Or.inl (hw _ (List.mem_of_getElem? (i := 63) rfl))) (Or.inr (hw _ (List.mem_of_getElem? (i := 21) rfl))) (by decide) (t := .boolean) (t' := .byte) (by decide) (by decide))
      obtain ⟨fs, hr, hrun, hended, hW⟩ := X23.leaveW hS0 (Nat.le_trans (Nat.zero_le _) (Nat.le_trans (Nat.le_trans (Nat.le_trans E14.1 E17.1) (Keep.of_wr W20).1) Kq23.1)) (v := some (.ref b14)) (fun h => by rw [Bd.returns] at h; cases h)
      refine ⟨_, _, c24.trans (retOut X23 hx Bd.returns rfl (Or.inr (Or.inr (Or.inr (Or.inr ⟨rfl, rfl, rfl⟩)))) (hb hby d_method_2_code_35) hr), hrun, hended, _, _, rfl, ?_, ?_, hW.1, hW.2.1, hW.2.2.1, hW.2.2.2.mono (by first | decide | exact Nat.le_of_ble_eq_true rfl) (by first | decide | exact Nat.le_of_ble_eq_true rfl)⟩
      · show QMk Z (own_mk p0 p1 p2) h0 n0 _ T23.heap _
        have So : OStrH Z T23.heap b14 t23 _ ([(nar .char p1)] : List Int32) := ⟨⟨Ex23, Fv23, Fc23, Va23, hp22, Nat.le_of_ble_eq_true rfl⟩, Fh23_hash, Fh23_hashIsZero, (fun _ => fk23)⟩
        rw [own_nar h8p1] at So
        exact ⟨_, _, _, rfl, N23, K23, (Nat.le_trans K0.1 (Nat.le_of_eq g14.symm)), by rw [own_mk, if_neg hq2, if_pos hq12]; exact So⟩
      · show CHr Z EL s.vm s.heap T23.vm T23.heap
        rw [hh]; exact R23.trans (CHv.at X23 hZ hEL R23.1)
    · have c25 : Steps p.tables e below S0 (s₁.setTop (mkF m 36 #[.val (.int p0), .val (.int p1), .val (.int p2)] [])) := c11.trans (by
        show Steps p.tables e below (s₁.setTop (mkF m 17 #[.val (.int p0), .val (.int p1), .val (.int p2)] [(.int (1 : Int32)), (.int p0)])) _
        refine XS.icmpYes X0.here hx rfl (pc0 := 17) (pc' := 36) rfl (hb hby d_method_2_code_17) rfl (feq hq12).2 (by decide) (by decide) ?_
        exact Steps.refl _)
      obtain ⟨T26, h26, X26, e26, E26, A26, D26, -, st26⟩ := newO X0 hx hZ hown (hw _ (List.mem_of_getElem? (i := 4) rfl)) (hw _ (List.mem_of_getElem? (i := 5) rfl)) (hw _ (List.mem_of_getElem? (i := 6) rfl)) e0 (g := (mkF m 36 #[.val (.int p0), .val (.int p1), .val (.int p2)] [])) rfl (hb hby d_method_2_code_36) (by decide) (by decide)
      obtain ⟨b26, g26⟩ : ∃ z, z = h0.size := ⟨_, rfl⟩
      rw [← g26] at A26 D26 st26
      have sn26 : Safe Z EL s.vm h0 b26 := Safe.new (Nat.le_of_eq g26.symm)
      have c27 : Steps p.tables e below S0 (T26.setTop (mkF m 39 #[.val (.int p0), .val (.int p1), .val (.int p2)] [(.ref b26)])) := c25.trans (st26 _ (Steps.refl _))
      have z26 : n0 ≤ h26.size := Nat.le_trans Z0 E26.1
      have K26 := K0.ext E26
      have r26 : CHr Z EL s.vm h0 s.vm h26 := CHr.ext E26 R0.1
      have R26 := R0.trans r26
      have lt_b26 : b26 < h26.size := A26.lt
      have sf26 : Safe Z EL s.vm h26 b26 := Safe.ext E26 R0.1 sn26
      have F26_value : Fld Z h26 b26 "java/lang/String" "value" "[B" .null := D26 (Or.inr (hw _ (List.mem_of_getElem? (i := 20) rfl))) (ty := (.array .byte)) (by decide)
      have F26_coder : Fld Z h26 b26 "java/lang/String" "coder" "B" (.int (0 : Int32)) := D26 (Or.inr (hw _ (List.mem_of_getElem? (i := 21) rfl))) (ty := .byte) (by decide)
      have F26_hash : Fld Z h26 b26 "java/lang/String" "hash" "I" (.int (0 : Int32)) := D26 (Or.inl (hw _ (List.mem_of_getElem? (i := 61) rfl))) (ty := .int) (by decide)
      have F26_hashIsZero : Fld Z h26 b26 "java/lang/String" "hashIsZero" "Z" (.int (0 : Int32)) := D26 (Or.inl (hw _ (List.mem_of_getElem? (i := 63) rfl))) (ty := .boolean) (by decide)
      have c28 : Steps p.tables e below S0 (T26.setTop (mkF m 41 #[.val (.int p0), .val (.int p1), .val (.int p2)] [(.int (2 : Int32)), (.ref b26), (.ref b26)])) := c27.trans (by
        show Steps p.tables e below (T26.setTop (mkF m 39 #[.val (.int p0), .val (.int p1), .val (.int p2)] [(.ref b26)])) _
        refine XS.dup X26.here hx rfl (hb hby d_method_2_code_39) rfl rfl ?_
        refine XS.iconst X26.here hx rfl (hb hby d_method_2_code_40) ?_
        exact Steps.refl _)
      obtain ⟨T29, h29, k29, X29, e29, E29, A29, st29⟩ := newP X26 hx hZ (hw _ (List.mem_of_getElem? (i := 7) rfl)) e26 (g := (mkF m 41 #[.val (.int p0), .val (.int p1), .val (.int p2)] [(.int (2 : Int32)), (.ref b26), (.ref b26)])) rfl (hb hby d_method_2_code_41) rfl (by decide) (cap := 2) (by decide) (by decide) (by decide) (by decide)
      obtain ⟨b29, g29⟩ : ∃ z, z = h26.size := ⟨_, rfl⟩
      rw [← g29] at A29 st29
      have c30 : Steps p.tables e below S0 (T29.setTop (mkF m 43 #[.val (.int p0), .val (.int p1), .val (.int p2)] [(.ref b29), (.ref b26), (.ref b26)])) := c28.trans (st29 _ (Steps.refl _))
      have z29 : n0 ≤ h29.size := Nat.le_trans z26 E29.1
      have K29 := K26.ext E29
      have r29 : CHr Z EL s.vm h26 s.vm h29 := CHr.ext E29 R26.1
      have R29 := R26.trans r29
      have V29 : Arv Z h29 b29 k29 .char (2 : Int32) [(.int (0 : Int32)), (.int (0 : Int32))] (.int (0 : Int32)) := (Arv.new A29 (by decide)).pad (pad_rep [] (.int (0 : Int32)) 2)
      have lt_b29 : b29 < h29.size := V29.lt
      have c31 : Steps p.tables e below S0 (T29.setTop (mkF m 47 #[.val (.int p0), .val (.int p1), .val (.int p2)] [(.int (p1.toUInt32.toUInt16.toUInt32.toInt32)), (.int (0 : Int32)), (.ref b29), (.ref b29), (.ref b26), (.ref b26)])) := c30.trans (by
        show Steps p.tables e below (T29.setTop (mkF m 43 #[.val (.int p0), .val (.int p1), .val (.int p2)] [(.ref b29), (.ref b26), (.ref b26)])) _
        refine XS.dup X29.here hx rfl (hb hby d_method_2_code_43) rfl rfl ?_
        refine XS.iconst X29.here hx rfl (hb hby d_method_2_code_44) ?_
        refine XS.iloadN X29.here hx rfl (hb hby d_method_2_code_45) rfl ?_
        refine XS.i2c X29.here hx rfl (hb hby d_method_2_code_46) rfl ?_
        exact Steps.refl _)
      rw [(own_i2c (own_up1 h8p1).1 (own_up1 h8p1).2)] at c31
      obtain ⟨cl32, Ar32, q32, S32, Nn32, Ha32, G32⟩ := id V29
      obtain ⟨T32, h32, X32, e32, W32, st32⟩ := stC X29 hx hZ e29 Ar32 (j := (0 : Int32)) (inb_of S32 ⟨by decide, by decide⟩) (g := (mkF m 47 #[.val (.int p0), .val (.int p1), .val (.int p2)] [(.int p1), (.int (0 : Int32)), (.ref b29), (.ref b29), (.ref b26), (.ref b26)])) rfl rfl (hb hby d_method_2_code_47)
      have V32 : Arv Z h32 b29 k29 .char (2 : Int32) [(.int (nar .char p1)), (.int (0 : Int32))] (.int (0 : Int32)) := Arv.set Ar32 q32 S32 Nn32 Ha32 G32 (fits_nar_char _) W32 0 rfl (Nat.le_of_ble_eq_true rfl)
      have c33 : Steps p.tables e below S0 (T32.setTop (mkF m 48 #[.val (.int p0), .val (.int p1), .val (.int p2)] [(.ref b29), (.ref b26), (.ref b26)])) := c31.trans (st32 _ (Steps.refl _))
      have N32 := Fr.snoc X32 N0 (Nat.le_trans Z0 (Nat.le_trans K26.1 (Nat.le_of_eq g29.symm)))
      have z32 : n0 ≤ h32.size := Nat.le_trans z29 (Keep.of_wr W32).1
      have K32 := K29.wr W32 (Or.inr (Nat.le_trans K26.1 (Nat.le_of_eq g29.symm)))
      have r32 : CHr Z EL s.vm h29 s.vm h32 := CHr.wr W32 (Safe.arv hZ.alike V29 (by decide)) R29.1
      have R32 := R29.trans r32
      have c34 : Steps p.tables e below S0 (T32.setTop (mkF m 52 #[.val (.int p0), .val (.int p1), .val (.int p2)] [(.int (p2.toUInt32.toUInt16.toUInt32.toInt32)), (.int (1 : Int32)), (.ref b29), (.ref b29), (.ref b26), (.ref b26)])) := c33.trans (by
        show Steps p.tables e below (T32.setTop (mkF m 48 #[.val (.int p0), .val (.int p1), .val (.int p2)] [(.ref b29), (.ref b26), (.ref b26)])) _
        refine XS.dup X32.here hx rfl (hb hby d_method_2_code_48) rfl rfl ?_
        refine XS.iconst X32.here hx rfl (hb hby d_method_2_code_49) ?_
        refine XS.iloadN X32.here hx rfl (hb hby d_method_2_code_50) rfl ?_
        refine XS.i2c X32.here hx rfl (hb hby d_method_2_code_51) rfl ?_
        exact Steps.refl _)
      rw [(own_i2c (own_up1 h8p2).1 (own_up1 h8p2).2)] at c34
      obtain ⟨cl35, Ar35, q35, S35, Nn35, Ha35, G35⟩ := id V32
      obtain ⟨T35, h35, X35, e35, W35, st35⟩ := stC X32 hx hZ e32 Ar35 (j := (1 : Int32)) (inb_of S35 ⟨by decide, by decide⟩) (g := (mkF m 52 #[.val (.int p0), .val (.int p1), .val (.int p2)] [(.int p2), (.int (1 : Int32)), (.ref b29), (.ref b29), (.ref b26), (.ref b26)])) rfl rfl (hb hby d_method_2_code_52)
      have V35 : Arv Z h35 b29 k29 .char (2 : Int32) [(.int (nar .char p1)), (.int (nar .char p2))] (.int (0 : Int32)) := Arv.set Ar35 q35 S35 Nn35 Ha35 G35 (fits_nar_char _) W35 1 rfl (Nat.le_of_ble_eq_true rfl)
      have c36 : Steps p.tables e below S0 (T35.setTop (mkF m 53 #[.val (.int p0), .val (.int p1), .val (.int p2)] [(.ref b29), (.ref b26), (.ref b26)])) := c34.trans (st35 _ (Steps.refl _))
      have N35 := Fr.snoc X35 N32 (Nat.le_trans Z0 (Nat.le_trans K26.1 (Nat.le_of_eq g29.symm)))
      have z35 : n0 ≤ h35.size := Nat.le_trans z32 (Keep.of_wr W35).1
      have K35 := K32.wr W35 (Or.inr (Nat.le_trans K26.1 (Nat.le_of_eq g29.symm)))
      have r35 : CHr Z EL s.vm h32 s.vm h35 := CHr.wr W35 (Safe.arv hZ.alike V32 (by decide)) R32.1
      have R35 := R32.trans r35
      have hp37 : ∀ c ∈ ([(nar .char p1), (nar .char p2)] : List Int32), ¬ c < 0 ∧ ¬ (255 : Int32) < c := (own_alS (own_c8n h8p1) (own_alS (own_c8n h8p2) own_al0))
      have hws37 : ∀ d ∈ StrChars.Road.words, d.before a0 Z = true := fun d hd => hw d (own_in_words d hd)
      obtain ⟨_, _, ⟨T38, L38, kk38, nn38⟩, -, X38, ⟨Lc38, hQ38, l38, y38, z38⟩, st38⟩ := X35.specialBack hx (y := (⟨"java/lang/String", "<init>", "([C)V"⟩ : MethodName)) rfl hown (mvT hZ (hw _ (List.mem_of_getElem? (i := 8) rfl))) (mvT hZ (hw _ (List.mem_of_getElem? (i := 9) rfl))) (mvT hZ (hw _ (List.mem_of_getElem? (i := 10) rfl))) (by decide) (StrChars.Road.backArv (W := 1) hZ hws37 (kI := 4) (hw _ (List.mem_of_getElem? (i := 5) rfl)) (cs := ([(nar .char p1), (nar .char p2)] : List Int32)) (((A26.ext E29).wr W32).wr W35) (((F26_value.ext E29).other W32 (Or.inl (Nat.ne_of_lt (Nat.lt_of_lt_of_le lt_b26 (Nat.le_of_eq g29.symm))))).other W35 (Or.inl (Nat.ne_of_lt (Nat.lt_of_lt_of_le lt_b26 (Nat.le_of_eq g29.symm))))) (((F26_coder.ext E29).other W32 (Or.inl (Nat.ne_of_lt (Nat.lt_of_lt_of_le lt_b26 (Nat.le_of_eq g29.symm))))).other W35 (Or.inl (Nat.ne_of_lt (Nat.lt_of_lt_of_le lt_b26 (Nat.le_of_eq g29.symm))))) V35 (O2.ext ((((X00.ext E26).ext E29).wr W32 (Nat.le_trans Z0 (Nat.le_trans K26.1 (Nat.le_of_eq g29.symm)))).wr W35 (Nat.le_trans Z0 (Nat.le_trans K26.1 (Nat.le_of_eq g29.symm)))).2) P5 rfl (by show 0 < 2; decide) (by show 2 ≤ _; decide) (fun c hc => (hp37 c hc).2) (by decide) (by decide)) (g := (mkF m 53 #[.val (.int p0), .val (.int p1), .val (.int p2)] [(.ref b29), (.ref b26), (.ref b26)])) rfl (by rw [hml]; rfl) (Steps.refl _) (a := b26) (argsL := [(.ref b29)]) (rest := [(.ref b26)]) (lenOf pd_oaCcV rfl) rfl (by show 2 * 0 + _ ≤ _; exact Nat.le_of_eq rfl) (hb hby d_method_2_code_53) (fun _ _ => ⟨rfl, e35, (by decide : 2 + 1 ≤ _), (by decide : 6 + 2 ≤ _)⟩)
      dsimp only [Pt.U, Pt.locs, Pt.cells, Pt.slots] at X38 l38 y38 z38 st38 hQ38
      subst l38 y38 z38
      obtain ⟨rfl, Lb38, Kq38, hsz38, Ex38, Fv38, Fc38, ⟨kb38, fk38, Va38⟩, hre38⟩ := hQ38
      have c39 : Steps p.tables e below S0 (T38.setTop (mkF m 56 #[.val (.int p0), .val (.int p1), .val (.int p2)] [(.ref b26)])) := c36.trans (st38)
      have N38 := Fr.app N35 (fun y hy => Lb38 y hy ▸ (Nat.le_trans Z0 (Nat.le_trans K0.1 (Nat.le_of_eq g26.symm))) : Fr n0 _)
      obtain ⟨t38, gt38⟩ : ∃ z, z = h35.size := ⟨_, rfl⟩
      rw [← gt38] at Fv38 Va38
      have z38 : n0 ≤ T38.heap.size := Nat.le_trans z35 Kq38.1
      have K38 := K35.trans Kq38 (allS (Or.inr (Nat.le_trans K0.1 (Nat.le_of_eq g26.symm))) all0)
      have r38 : CHr Z EL s.vm h35 s.vm T38.heap := CHr.keep Kq38 (sfS (r35.safe (Nat.lt_of_lt_of_le lt_b26 (Nat.le_trans E29.1 (Keep.of_wr W32).1)) (r32.safe (Nat.lt_of_lt_of_le lt_b26 E29.1) (r29.safe lt_b26 sf26))) sf0) R35.1
      have R38 := R35.trans r38
      have lt_t38 : t38 < T38.heap.size := Va38.lt
      have Fh38_hash := hre38 _ _ _ _ (((F26_hash.ext E29).other W32 (Or.inl (Nat.ne_of_lt (Nat.lt_of_lt_of_le lt_b26 (Nat.le_of_eq g29.symm))))).other W35 (Or.inl (Nat.ne_of_lt (Nat.lt_of_lt_of_le lt_b26 (Nat.le_of_eq g29.symm))))) (slot_ne (Or.inl (hw _ (List.mem_of_getElem? (i := 61) rfl))) (Or.inr (hw _ (List.mem_of_getElem? (i := 20) rfl))) (by decide) (t := .int) (t' := (.array .byte)) (by decide) (by decide)) (slot_ne (Or.inl (hw _ (List.mem_of_getElem? (i := 61) rfl))) (Or.inr (hw _ (List.mem_of_getElem? (i := 21) rfl))) (by decide) (t := .int) (t' := .byte) (by decide) (by decide))
      have Fh38_hashIsZero := hre38 _ _ _ _ (((F26_hashIsZero.ext E29).other W32 (Or.inl (Nat.ne_of_lt (Nat.lt_of_lt_of_le lt_b26 (Nat.le_of_eq g29.symm))))).other W35 (Or.inl (Nat.ne_of_lt (Nat.lt_of_lt_of_le lt_b26 (Nat.le_of_eq g29.symm))))) (slot_ne (Or.inl (hw _ (List.mem_of_getElem? (i := 63) rfl))) (Or.inr (hw _ (List.mem_of_getElem? (i := 20) rfl))) (by decide) (t := .boolean) (t' := (.array .byte)) (by decide) (by decide)) (slot_ne (Or.inl (hw _ (List.mem_of_getElem? (i := 63) rfl))) (Or.inr (hw _ (List.mem_of_getElem? (i := 21) rfl))) (by decide) (t := .boolean) (t' := .byte) (by decide) (by decide))
      obtain ⟨fs, hr, hrun, hended, hW⟩ := X38.leaveW hS0 (Nat.le_trans (Nat.zero_le _) (Nat.le_trans (Nat.le_trans (Nat.le_trans (Nat.le_trans E26.1 E29.1) (Keep.of_wr W32).1) (Keep.of_wr W35).1) Kq38.1)) (v := some (.ref b26)) (fun h => by rw [Bd.returns] at h; cases h)
      refine ⟨_, _, c39.trans (retOut X38 hx Bd.returns rfl (Or.inr (Or.inr (Or.inr (Or.inr ⟨rfl, rfl, rfl⟩)))) (hb hby d_method_2_code_56) hr), hrun, hended, _, _, rfl, ?_, ?_, hW.1, hW.2.1, hW.2.2.1, hW.2.2.2.mono (by first | decide | exact Nat.le_of_ble_eq_true rfl) (by first | decide | exact Nat.le_of_ble_eq_true rfl)⟩
      · show QMk Z (own_mk p0 p1 p2) h0 n0 _ T38.heap _
        have So : OStrH Z T38.heap b26 t38 _ ([(nar .char p1), (nar .char p2)] : List Int32) := ⟨⟨Ex38, Fv38, Fc38, Va38, hp37, Nat.le_of_ble_eq_true rfl⟩, Fh38_hash, Fh38_hashIsZero, (fun _ => fk38)⟩
        rw [own_nar h8p1, own_nar h8p2] at So
        exact ⟨_, _, _, rfl, N38, K38, (Nat.le_trans K0.1 (Nat.le_of_eq g26.symm)), by rw [own_mk, if_neg hq2, if_neg hq12]; exact So⟩
      · show CHr Z EL s.vm s.heap T38.vm T38.heap
        rw [hh]; exact R38.trans (CHv.at X38 hZ hEL R38.1)

def QRt (Z : State) (x sx tx mx ux : Addr) (kx km : ClassId) (cs ds : List Int32) (h0 : Heap) (n0 : Nat) (v : Option Value) (h : Heap) (L : List Loc) : Prop := v = none ∧ Fr n0 L ∧ Keep h0 h [x, sx, mx] ∧ Exa Z h x "com/example/evenkeel/evenkeel/Route" ∧ Fld Z h x "com/example/evenkeel/evenkeel/Route" "service" "Ljava/lang/String;" (.ref sx) ∧ Fld Z h x "com/example/evenkeel/evenkeel/Route" "method" "Ljava/lang/String;" (.ref mx) ∧ Fld Z h x "com/example/evenkeel/evenkeel/Route" "hash" "I" (.int (((31 : Int32) * (own_hash cs)) + (own_hash ds))) ∧ OStr Z h sx tx kx cs ∧ OStr Z h mx ux km ds

theorem d_prog_27_method_1_code_0 : decode prog_27_method_1_code 0 = .ok (.aload_n 0, 1) := by decide +kernel
theorem d_prog_27_method_1_code_1 : decode prog_27_method_1_code 1 = .ok (.invokespecial 1, 3) := by decide +kernel
theorem d_prog_27_method_1_code_4 : decode prog_27_method_1_code 4 = .ok (.aload_n 0, 1) := by decide +kernel
theorem d_prog_27_method_1_code_5 : decode prog_27_method_1_code 5 = .ok (.aload_n 1, 1) := by decide +kernel
theorem d_prog_27_method_1_code_6 : decode prog_27_method_1_code 6 = .ok (.ldc 7, 2) := by decide +kernel
theorem pd_oLjavaslangsObjecteLjavaslangsStringecLjavaslangsObjecte : parseMethodDescriptor "(Ljava/lang/Object;Ljava/lang/String;)Ljava/lang/Object;" = some ⟨[(.object "java/lang/Object"), (.object "java/lang/String")], some (.object "java/lang/Object")⟩ := by decide +kernel
theorem d_prog_27_method_1_code_8 : decode prog_27_method_1_code 8 = .ok (.invokestatic 9, 3) := by decide +kernel
theorem d_prog_27_method_1_code_11 : decode prog_27_method_1_code 11 = .ok (.checkcast 15, 3) := by decide +kernel
theorem d_prog_27_method_1_code_14 : decode prog_27_method_1_code 14 = .ok (.putfield 17, 3) := by decide +kernel
theorem d_prog_27_method_1_code_17 : decode prog_27_method_1_code 17 = .ok (.aload_n 0, 1) := by decide +kernel
theorem d_prog_27_method_1_code_18 : decode prog_27_method_1_code 18 = .ok (.aload_n 2, 1) := by decide +kernel
theorem d_prog_27_method_1_code_19 : decode prog_27_method_1_code 19 = .ok (.ldc 22, 2) := by decide +kernel
theorem d_prog_27_method_1_code_21 : decode prog_27_method_1_code 21 = .ok (.invokestatic 9, 3) := by decide +kernel
theorem d_prog_27_method_1_code_24 : decode prog_27_method_1_code 24 = .ok (.checkcast 15, 3) := by decide +kernel
theorem d_prog_27_method_1_code_27 : decode prog_27_method_1_code 27 = .ok (.putfield 24, 3) := by decide +kernel
theorem d_prog_27_method_1_code_30 : decode prog_27_method_1_code 30 = .ok (.aload_n 0, 1) := by decide +kernel
theorem d_prog_27_method_1_code_31 : decode prog_27_method_1_code 31 = .ok (.bipush 31, 2) := by decide +kernel
theorem d_prog_27_method_1_code_33 : decode prog_27_method_1_code 33 = .ok (.aload_n 1, 1) := by decide +kernel
theorem pd_ocI : parseMethodDescriptor "()I" = some ⟨[], some .int⟩ := by decide +kernel
theorem d_prog_27_method_1_code_34 : decode prog_27_method_1_code 34 = .ok (.invokevirtual 26, 3) := by decide +kernel
theorem d_prog_27_method_1_code_37 : decode prog_27_method_1_code 37 = .ok (.imul, 1) := by decide +kernel
theorem d_prog_27_method_1_code_38 : decode prog_27_method_1_code 38 = .ok (.aload_n 2, 1) := by decide +kernel
theorem d_prog_27_method_1_code_39 : decode prog_27_method_1_code 39 = .ok (.invokevirtual 26, 3) := by decide +kernel
theorem d_prog_27_method_1_code_42 : decode prog_27_method_1_code 42 = .ok (.iadd, 1) := by decide +kernel
theorem d_prog_27_method_1_code_43 : decode prog_27_method_1_code 43 = .ok (.putfield 30, 3) := by decide +kernel
theorem d_prog_27_method_1_code_46 : decode prog_27_method_1_code 46 = .ok (.return_, 1) := by decide +kernel
theorem pn_com_example_evenkeel_evenkeel_Route : plainName "com/example/evenkeel/evenkeel/Route" = true := by first | (simp [plainName, overriddenIn]; done) | decide +kernel
theorem ef_rmRt (m : MethodId) (x0 : Addr) (x1 : Addr) (x2 : Addr) : entryFrame m #[(.ref x0), (.ref x1), (.ref x2)] 3 = mkF m 0 #[.val (.ref x0), .val (.ref x1), .val (.ref x2)] [] := by first | (simp [entryFrame, mkF, argsToLocals, Value.category]; done) | rfl
set_option maxRecDepth 65536 in
set_option maxHeartbeats 40000000 in
theorem rmRt (l : Launch) (Z : State) (a0 : Array Value) (hw : ∀ d ∈ tables_1, d.before a0 Z = true) (ws : List Jvm.Cond) (x sx tx mx ux : Addr) (kx km : ClassId) (cs ds : List Int32) (G1 : Int32) (h0 : Heap) (n0 : Nat) (Z0 : n0 ≤ h0.size) (g_x : n0 ≤ x) (g_sx : n0 ≤ sx) (g_mx : n0 ≤ mx) (Ex : Exa Z h0 x "com/example/evenkeel/evenkeel/Route") (F0 : Fld Z h0 x "com/example/evenkeel/evenkeel/Route" "service" "Ljava/lang/String;" .null) (F1 : Fld Z h0 x "com/example/evenkeel/evenkeel/Route" "method" "Ljava/lang/String;" .null) (F2 : Fld Z h0 x "com/example/evenkeel/evenkeel/Route" "hash" "I" (.int (0 : Int32))) (Sx : OStrH Z h0 sx tx kx cs) (Sm : OStrH Z h0 mx ux km ds) (hsm : sx ≠ mx) (O2 : Sta Z Z.heap "java/lang/String" "COMPACT_STRINGS" "Z" (.int G1)) (P5 : ¬ G1 = 0) (X00 : Old Z n0 h0) :
    MetFree l (⟨"com/example/evenkeel/evenkeel/Route", "<init>", "(Ljava/lang/String;Ljava/lang/String;)V"⟩ : MethodName) (head1 (Jvm.Cond.code (⟨"com/example/evenkeel/evenkeel/Route", "<init>", "(Ljava/lang/String;Ljava/lang/String;)V"⟩ : MethodName) prog_27_method_1_code 3 (none) :: ws) ({ frames := 4, cells := 4, slots := 60, locals := 60 } : Room)) (fun aa U => aa = #[(.ref x), (.ref sx), (.ref mx)] ∧ Z.Warmed39 U.vm ∧ U.heap = h0 ∧ CHv Z EL0 U.vm h0) (fun _ _ _ _ _ => True) (fun _ U o U' => ∃ v L, o = .returned v ∧ QRt Z x sx tx mx ux kx km cs ds h0 n0 v U'.heap L ∧ CHr Z EL0 U.vm U.heap U'.vm U'.heap ∧ ReturnedEndW U o U' L ({ frames := 4, cells := 4, slots := 60, locals := 60 } : Room).cells ({ frames := 4, cells := 4, slots := 60, locals := 60 } : Room).slots) := by
  refine MetFree.of_bodySF (plainFor_of_name pn_com_example_evenkeel_evenkeel_Route) hisR ?_
  intro p e s m args below meth c s₁ Bd hml0 hP hK
  obtain ⟨rfl, hZ, hh, hCH⟩ := hP
  have hx := Bd.exec
  have hby := Bd.bytes
  have hml : c.maxLocals = 3 := hml0
  have hown : s.vm.findClass "com/example/evenkeel/evenkeel/Route" = some m.cls := findClass_of_methodNamed Bd.named
  have hnm := (name_of_methodNamed Bd.named Bd.method).1
  have X0 : Stand p l e ({ frames := 4, cells := 4, slots := 60, locals := 60 } : Room) s m #[(.ref x), (.ref sx), (.ref mx)] below meth c s₁ [] 0 0 := Stand.of_body Bd
  have e0 : s₁.heap = h0 := by rw [← hh, Bd.state]; rfl
  have N0 := Fr.nil n0
  have K0 := Keep.refl h0 [x, sx, mx]
  obtain ⟨S0, hS0⟩ : ∃ z, z = s₁.setTop (entryFrame m #[(.ref x), (.ref sx), (.ref mx)] 3) := ⟨_, rfl⟩
  rw [← hS0]
  have c0 : Steps p.tables e below S0 (s₁.setTop (mkF m 0 #[.val (.ref x), .val (.ref sx), .val (.ref mx)] [])) := by
    rw [hS0]; exact castTop (ef_rmRt m x sx mx) (Steps.refl _)
  have X0 : Stand p l e ({ frames := 4, cells := 4, slots := 60, locals := 60 } : Room) (s.setVm s.vm) m #[(.ref x), (.ref sx), (.ref mx)] below meth c s₁ [] 0 0 := X0
  have hS0 : s.Since s.vm 0 := own_since s
  have R0 : CHr Z EL0 s.vm h0 s.vm h0 := CHr.refl hCH
  have hEL := (EW.nil : EW Z a0 EL0)
  have hwS := own_strw hw
  have c1 : Steps p.tables e below S0 (s₁.setTop (mkF m 1 #[.val (.ref x), .val (.ref sx), .val (.ref mx)] [(.ref x)])) := c0.trans (by
    show Steps p.tables e below (s₁.setTop (mkF m 0 #[.val (.ref x), .val (.ref sx), .val (.ref mx)] [])) _
    refine XS.aloadN X0.here hx rfl (hb hby d_prog_27_method_1_code_0) rfl rfl ?_
    exact Steps.refl _)
  obtain ⟨T2, X2, e2, st2⟩ := initO X0 hx hZ hown (hw _ (List.mem_of_getElem? (i := 43) rfl)) (hw _ (List.mem_of_getElem? (i := 16) rfl)) (hw _ (List.mem_of_getElem? (i := 17) rfl)) e0 (g := (mkF m 1 #[.val (.ref x), .val (.ref sx), .val (.ref mx)] [(.ref x)])) rfl (by rw [hml]; rfl) rfl (hb hby d_prog_27_method_1_code_1) (by decide) (W := 0) (by show 2 * 0 + _ ≤ _; exact Nat.le_of_eq rfl) (by decide)
  have c3 : Steps p.tables e below S0 (T2.setTop (mkF m 4 #[.val (.ref x), .val (.ref sx), .val (.ref mx)] [])) := c1.trans (st2 _ (Steps.refl _))
  have c4 : Steps p.tables e below S0 (T2.setTop (mkF m 6 #[.val (.ref x), .val (.ref sx), .val (.ref mx)] [(.ref sx), (.ref x)])) := c3.trans (by
    show Steps p.tables e below (T2.setTop (mkF m 4 #[.val (.ref x), .val (.ref sx), .val (.ref mx)] [])) _
    refine XS.aloadN X2.here hx rfl (hb hby d_prog_27_method_1_code_4) rfl rfl ?_
    refine XS.aloadN X2.here hx rfl (hb hby d_prog_27_method_1_code_5) rfl rfl ?_
    exact Steps.refl _)
  obtain ⟨a5, T5, h5, k5, X5, e5, E5, hS5, hk5, hZ5, hown5, r5, -, st5⟩ := ldcOH X2 hx hZ hown (hw _ (List.mem_of_getElem? (i := 44) rfl)) hwS e2 hS0 (Nat.zero_le _) hEL R0.1 (g := (mkF m 6 #[.val (.ref x), .val (.ref sx), .val (.ref mx)] [(.ref sx), (.ref x)])) rfl (hb hby d_prog_27_method_1_code_6) (n := 28) (by decide) (by decide) (by decide) (by decide)
  have c6 : Steps p.tables e below S0 (T5.setTop (mkF m 8 #[.val (.ref x), .val (.ref sx), .val (.ref mx)] [(.ref a5), (.ref sx), (.ref x)])) := c4.trans (st5 _ (Steps.refl _))
  have z5 : n0 ≤ h5.size := Nat.le_trans Z0 E5.1
  have K5 := K0.ext E5
  have R5 := R0.trans r5
  obtain ⟨_, _, ⟨T7, L7, kk7, nn7⟩, -, X7, ⟨Lc7, hQ7, l7, y7, z7⟩, st7⟩ := Jvm.LawKit.callS X5 hx (y := (⟨"java/util/Objects", "requireNonNull", "(Ljava/lang/Object;Ljava/lang/String;)Ljava/lang/Object;"⟩ : MethodName)) hown5 (mvT hZ5 (hw _ (List.mem_of_getElem? (i := 45) rfl))) (mvT hZ5 (hw _ (List.mem_of_getElem? (i := 46) rfl))) (mvT hZ5 (hw _ (List.mem_of_getElem? (i := 47) rfl))) (mvT hZ5 (hw _ (List.mem_of_getElem? (i := 48) rfl))) (by decide) (backOf (W := 1) (rmRnn2 l Z a0 hw [] sx a5 h5 n0 z5 ) hZ5 (hw _ (List.mem_of_getElem? (i := 48) rfl)) (hw _ (List.mem_of_getElem? (i := 47) rfl)) (by decide) (by decide)) (g := (mkF m 8 #[.val (.ref x), .val (.ref sx), .val (.ref mx)] [(.ref a5), (.ref sx), (.ref x)])) rfl (by rw [hml]; rfl) (argsL := [(.ref sx), (.ref a5)]) (rest := [(.ref x)]) (lenOf pd_oLjavaslangsObjecteLjavaslangsStringecLjavaslangsObjecte rfl) rfl (by show 2 * 0 + _ ≤ _; exact Nat.le_of_eq rfl) (hb hby d_prog_27_method_1_code_8) (fun _ _ => ⟨rfl, e5, (by decide : 2 + 0 ≤ _), (by decide : 32 + 0 ≤ _)⟩)
  dsimp only [Pt.U, Pt.locs, Pt.cells, Pt.slots] at X7 l7 y7 z7 st7 hQ7
  subst l7 y7 z7
  obtain ⟨rfl, Nq7, eq7⟩ := hQ7
  have c8 : Steps p.tables e below S0 (T7.setTop (mkF m 11 #[.val (.ref x), .val (.ref sx), .val (.ref mx)] [(.ref sx), (.ref x)])) := c6.trans (st7 _ (Steps.refl _))
  have N7 := Fr.app N0 Nq7
  obtain ⟨T9, X9, e9, st9⟩ := castY X7 hx hZ5 hown5 (hw _ (List.mem_of_getElem? (i := 49) rfl)) eq7 (Ins.self (Sx.1.1.ext E5)) (g := (mkF m 11 #[.val (.ref x), .val (.ref sx), .val (.ref mx)] [(.ref sx), (.ref x)])) rfl rfl (hb hby d_prog_27_method_1_code_11)
  have c10 : Steps p.tables e below S0 (T9.setTop (mkF m 14 #[.val (.ref x), .val (.ref sx), .val (.ref mx)] [(.ref sx), (.ref x)])) := c8.trans (st9 _ (Steps.refl _))
  obtain ⟨T11, h11, X11, e11, W11, st11⟩ := putF X9 hx hZ5 hown5 (host := "") (Or.inl (hw _ (List.mem_of_getElem? (i := 50) rfl))) Via.refl e9 (F0.ext E5) (Ex.ext E5) (Or.inr ⟨(hw _ (List.mem_of_getElem? (i := 51) rfl)), rfl, hnm⟩) (hw _ (List.mem_of_getElem? (i := 38) rfl)) (ty := (.object "java/lang/String")) (by decide) rfl rfl (g := (mkF m 14 #[.val (.ref x), .val (.ref sx), .val (.ref mx)] [(.ref sx), (.ref x)])) rfl rfl (hb hby d_prog_27_method_1_code_14)
  have c12 : Steps p.tables e below S0 (T11.setTop (mkF m 17 #[.val (.ref x), .val (.ref sx), .val (.ref mx)] [])) := c10.trans (st11 _ (Steps.refl _))
  have N11 := Fr.snoc X11 N7 g_x
  have Fw11 := (F0.ext E5).same W11
  have z11 : n0 ≤ h11.size := Nat.le_trans z5 (Keep.of_wr W11).1
  have K11 := K5.wr W11 (Or.inl (by simp))
  have r11 : CHr Z EL0 T5.vm h5 T5.vm h11 := CHr.wr W11 own_safe0 R5.1
  have R11 := R5.trans r11
  have c13 : Steps p.tables e below S0 (T11.setTop (mkF m 19 #[.val (.ref x), .val (.ref sx), .val (.ref mx)] [(.ref mx), (.ref x)])) := c12.trans (by
    show Steps p.tables e below (T11.setTop (mkF m 17 #[.val (.ref x), .val (.ref sx), .val (.ref mx)] [])) _
    refine XS.aloadN X11.here hx rfl (hb hby d_prog_27_method_1_code_17) rfl rfl ?_
    refine XS.aloadN X11.here hx rfl (hb hby d_prog_27_method_1_code_18) rfl rfl ?_
    exact Steps.refl _)
  obtain ⟨a14, T14, h14, k14, X14, e14, E14, hS14, hk14, hZ14, hown14, r14, -, st14⟩ := ldcOH X11 hx hZ5 hown5 (hw _ (List.mem_of_getElem? (i := 52) rfl)) hwS e11 hS5 (Nat.le_trans hk5 (Keep.of_wr W11).1) hEL R11.1 (g := (mkF m 19 #[.val (.ref x), .val (.ref sx), .val (.ref mx)] [(.ref mx), (.ref x)])) rfl (hb hby d_prog_27_method_1_code_19) (n := 24) (by decide) (by decide) (by decide) (by decide)
  have c15 : Steps p.tables e below S0 (T14.setTop (mkF m 21 #[.val (.ref x), .val (.ref sx), .val (.ref mx)] [(.ref a14), (.ref mx), (.ref x)])) := c13.trans (st14 _ (Steps.refl _))
  have z14 : n0 ≤ h14.size := Nat.le_trans z11 E14.1
  have K14 := K11.ext E14
  have R14 := R11.trans r14
  obtain ⟨_, _, ⟨T16, L16, kk16, nn16⟩, -, X16, ⟨Lc16, hQ16, l16, y16, z16⟩, st16⟩ := Jvm.LawKit.callS X14 hx (y := (⟨"java/util/Objects", "requireNonNull", "(Ljava/lang/Object;Ljava/lang/String;)Ljava/lang/Object;"⟩ : MethodName)) hown14 (mvT hZ14 (hw _ (List.mem_of_getElem? (i := 45) rfl))) (mvT hZ14 (hw _ (List.mem_of_getElem? (i := 46) rfl))) (mvT hZ14 (hw _ (List.mem_of_getElem? (i := 47) rfl))) (mvT hZ14 (hw _ (List.mem_of_getElem? (i := 48) rfl))) (by decide) (backOf (W := 1) (rmRnn2 l Z a0 hw [] mx a14 h14 n0 z14 ) hZ14 (hw _ (List.mem_of_getElem? (i := 48) rfl)) (hw _ (List.mem_of_getElem? (i := 47) rfl)) (by decide) (by decide)) (g := (mkF m 21 #[.val (.ref x), .val (.ref sx), .val (.ref mx)] [(.ref a14), (.ref mx), (.ref x)])) rfl (by rw [hml]; rfl) (argsL := [(.ref mx), (.ref a14)]) (rest := [(.ref x)]) (lenOf pd_oLjavaslangsObjecteLjavaslangsStringecLjavaslangsObjecte rfl) rfl (by show 2 * 0 + _ ≤ _; exact Nat.le_of_eq rfl) (hb hby d_prog_27_method_1_code_21) (fun _ _ => ⟨rfl, e14, (by decide : 4 + 0 ≤ _), (by decide : 60 + 0 ≤ _)⟩)
  dsimp only [Pt.U, Pt.locs, Pt.cells, Pt.slots] at X16 l16 y16 z16 st16 hQ16
  subst l16 y16 z16
  obtain ⟨rfl, Nq16, eq16⟩ := hQ16
  have c17 : Steps p.tables e below S0 (T16.setTop (mkF m 24 #[.val (.ref x), .val (.ref sx), .val (.ref mx)] [(.ref mx), (.ref x)])) := c15.trans (st16 _ (Steps.refl _))
  have N16 := Fr.app N11 Nq16
  obtain ⟨T18, X18, e18, st18⟩ := castY X16 hx hZ14 hown14 (hw _ (List.mem_of_getElem? (i := 49) rfl)) eq16 (Ins.self (((Sm.1.1.ext E5).wr W11).ext E14)) (g := (mkF m 24 #[.val (.ref x), .val (.ref sx), .val (.ref mx)] [(.ref mx), (.ref x)])) rfl rfl (hb hby d_prog_27_method_1_code_24)
  have c19 : Steps p.tables e below S0 (T18.setTop (mkF m 27 #[.val (.ref x), .val (.ref sx), .val (.ref mx)] [(.ref mx), (.ref x)])) := c17.trans (st18 _ (Steps.refl _))
  obtain ⟨T20, h20, X20, e20, W20, st20⟩ := putF X18 hx hZ14 hown14 (host := "") (Or.inl (hw _ (List.mem_of_getElem? (i := 53) rfl))) Via.refl e18 (((F1.ext E5).other W11 (Or.inr (slot_ne (Or.inr (hw _ (List.mem_of_getElem? (i := 54) rfl))) (Or.inr (hw _ (List.mem_of_getElem? (i := 51) rfl))) (by decide) (t := (.object "java/lang/String")) (t' := (.object "java/lang/String")) (by decide) (by decide)))).ext E14) (((Ex.ext E5).wr W11).ext E14) (Or.inr ⟨(hw _ (List.mem_of_getElem? (i := 54) rfl)), rfl, hnm⟩) (hw _ (List.mem_of_getElem? (i := 38) rfl)) (ty := (.object "java/lang/String")) (by decide) rfl rfl (g := (mkF m 27 #[.val (.ref x), .val (.ref sx), .val (.ref mx)] [(.ref mx), (.ref x)])) rfl rfl (hb hby d_prog_27_method_1_code_27)
  have c21 : Steps p.tables e below S0 (T20.setTop (mkF m 30 #[.val (.ref x), .val (.ref sx), .val (.ref mx)] [])) := c19.trans (st20 _ (Steps.refl _))
  have N20 := Fr.snoc X20 N16 g_x
  have Fw20 := (((F1.ext E5).other W11 (Or.inr (slot_ne (Or.inr (hw _ (List.mem_of_getElem? (i := 54) rfl))) (Or.inr (hw _ (List.mem_of_getElem? (i := 51) rfl))) (by decide) (t := (.object "java/lang/String")) (t' := (.object "java/lang/String")) (by decide) (by decide)))).ext E14).same W20
  have z20 : n0 ≤ h20.size := Nat.le_trans z14 (Keep.of_wr W20).1
  have K20 := K14.wr W20 (Or.inl (by simp))
  have r20 : CHr Z EL0 T14.vm h14 T14.vm h20 := CHr.wr W20 own_safe0 R14.1
  have R20 := R14.trans r20
  have c22 : Steps p.tables e below S0 (T20.setTop (mkF m 34 #[.val (.ref x), .val (.ref sx), .val (.ref mx)] [(.ref sx), (.int (31 : Int32)), (.ref x)])) := c21.trans (by
    show Steps p.tables e below (T20.setTop (mkF m 30 #[.val (.ref x), .val (.ref sx), .val (.ref mx)] [])) _
    refine XS.aloadN X20.here hx rfl (hb hby d_prog_27_method_1_code_30) rfl rfl ?_
    refine XS.bipush X20.here hx rfl (hb hby d_prog_27_method_1_code_31) ?_
    refine XS.aloadN X20.here hx rfl (hb hby d_prog_27_method_1_code_33) rfl rfl ?_
    exact Steps.refl _)
  obtain ⟨cq23, kq23, q23a, q23b, q23c⟩ := isOf hZ14 e20 ((((Sx.1.1.ext E5).wr W11).ext E14).wr W20)
  obtain ⟨_, _, ⟨T23, L23, kk23, nn23⟩, -, X23, ⟨Lc23, hQ23, l23, y23, z23⟩, st23⟩ := X20.virtualBack hx (y := (⟨"java/lang/String", "hashCode", "()I"⟩ : MethodName)) (z := (⟨"java/lang/String", "hashCode", "()I"⟩ : MethodName)) hown14 (mvT hZ14 (hw _ (List.mem_of_getElem? (i := 55) rfl))) (mvT hZ14 (hw _ (List.mem_of_getElem? (i := 56) rfl))) (notFace_of_selects (args := #[]) (mvT hZ14 (hw _ (List.mem_of_getElem? (i := 58) rfl)))) (mvT hZ14 (hw _ (List.mem_of_getElem? (i := 58) rfl))) (mvT hZ14 (hw _ (List.mem_of_getElem? (i := 57) rfl))) (by decide) (backOf (W := 2) (rmHC l Z a0 hw [] sx tx kx cs G1 h20 n0 z20 g_sx ⟨⟨((((Sx.1.1.ext E5).wr W11).ext E14).wr W20), ((((Sx.1.2.1.ext E5).other W11 (Or.inl (Exa.ne Sx.1.1 Ex (by decide)))).ext E14).other W20 (Or.inl (Exa.ne Sx.1.1 Ex (by decide)))), ((((Sx.1.2.2.1.ext E5).other W11 (Or.inl (Exa.ne Sx.1.1 Ex (by decide)))).ext E14).other W20 (Or.inl (Exa.ne Sx.1.1 Ex (by decide)))), ((((Sx.1.2.2.2.1.ext E5).other W11 (Ne.symm (Exa.neArv Ex Sx.1.2.2.2.1 (hw _ (List.mem_of_getElem? (i := 38) rfl))))).ext E14).other W20 (Ne.symm (Exa.neArv Ex Sx.1.2.2.2.1 (hw _ (List.mem_of_getElem? (i := 38) rfl))))), Sx.1.2.2.2.2.1, Sx.1.2.2.2.2.2⟩, ((((Sx.2.1.ext E5).other W11 (Or.inl (Exa.ne Sx.1.1 Ex (by decide)))).ext E14).other W20 (Or.inl (Exa.ne Sx.1.1 Ex (by decide)))), ((((Sx.2.2.1.ext E5).other W11 (Or.inl (Exa.ne Sx.1.1 Ex (by decide)))).ext E14).other W20 (Or.inl (Exa.ne Sx.1.1 Ex (by decide)))), Sx.2.2.2⟩ O2 P5 ((((X00.ext E5).wr W11 g_x).ext E14).wr W20 g_x)) hZ14 (hw _ (List.mem_of_getElem? (i := 59) rfl)) (hw _ (List.mem_of_getElem? (i := 6) rfl)) (by decide) (by decide)) q23a q23c (g := (mkF m 34 #[.val (.ref x), .val (.ref sx), .val (.ref mx)] [(.ref sx), (.int (31 : Int32)), (.ref x)])) rfl (by rw [hml]; rfl) (Steps.refl _) (argsL := []) (rest := [(.int (31 : Int32)), (.ref x)]) (lenOf pd_ocI rfl) rfl (by show 2 * 0 + _ ≤ _; exact Nat.le_of_eq rfl) (hb hby d_prog_27_method_1_code_34) (fun _ _ => ⟨rfl, e20, (by decide : 4 + 0 ≤ _), (by decide : 60 + 0 ≤ _)⟩)
  dsimp only [Pt.U, Pt.locs, Pt.cells, Pt.slots] at X23 l23 y23 z23 st23 hQ23
  subst l23 y23 z23
  obtain ⟨rfl, Nq23, Kq23, So23⟩ := hQ23
  have c24 : Steps p.tables e below S0 (T23.setTop (mkF m 37 #[.val (.ref x), .val (.ref sx), .val (.ref mx)] [(.int (own_hash cs)), (.int (31 : Int32)), (.ref x)])) := c22.trans (st23)
  have N23 := Fr.app N20 Nq23
  have z23 : n0 ≤ T23.heap.size := Nat.le_trans z20 Kq23.1
  have K23 := K20.trans Kq23 (allS (Or.inl (by simp)) all0)
  have r23 : CHr Z EL0 T14.vm h20 T14.vm T23.heap := CHr.keep Kq23 (sfS own_safe0 sf0) R20.1
  have R23 := R20.trans r23
  have c25 : Steps p.tables e below S0 (T23.setTop (mkF m 39 #[.val (.ref x), .val (.ref sx), .val (.ref mx)] [(.ref mx), (.int ((31 : Int32) * (own_hash cs))), (.ref x)])) := c24.trans (by
    show Steps p.tables e below (T23.setTop (mkF m 37 #[.val (.ref x), .val (.ref sx), .val (.ref mx)] [(.int (own_hash cs)), (.int (31 : Int32)), (.ref x)])) _
    refine XS.imul X23.here hx rfl (hb hby d_prog_27_method_1_code_37) rfl ?_
    refine XS.aloadN X23.here hx rfl (hb hby d_prog_27_method_1_code_38) rfl rfl ?_
    exact Steps.refl _)
  obtain ⟨cq26, kq26, q26a, q26b, q26c⟩ := isOf hZ14 rfl (((((Sm.1.1.ext E5).wr W11).ext E14).wr W20).keep Kq23)
  obtain ⟨_, _, ⟨T26, L26, kk26, nn26⟩, -, X26, ⟨Lc26, hQ26, l26, y26, z26⟩, st26⟩ := X23.virtualBack hx (y := (⟨"java/lang/String", "hashCode", "()I"⟩ : MethodName)) (z := (⟨"java/lang/String", "hashCode", "()I"⟩ : MethodName)) hown14 (mvT hZ14 (hw _ (List.mem_of_getElem? (i := 55) rfl))) (mvT hZ14 (hw _ (List.mem_of_getElem? (i := 56) rfl))) (notFace_of_selects (args := #[]) (mvT hZ14 (hw _ (List.mem_of_getElem? (i := 58) rfl)))) (mvT hZ14 (hw _ (List.mem_of_getElem? (i := 58) rfl))) (mvT hZ14 (hw _ (List.mem_of_getElem? (i := 57) rfl))) (by decide) (backOf (W := 2) (rmHC l Z a0 hw [] mx ux km ds G1 T23.heap n0 z23 g_mx ⟨⟨(((((Sm.1.1.ext E5).wr W11).ext E14).wr W20).keep Kq23), (((((Sm.1.2.1.ext E5).other W11 (Or.inl (Exa.ne Sm.1.1 Ex (by decide)))).ext E14).other W20 (Or.inl (Exa.ne Sm.1.1 Ex (by decide)))).keep Kq23 (ninS (Ne.symm hsm) nin0)), (((((Sm.1.2.2.1.ext E5).other W11 (Or.inl (Exa.ne Sm.1.1 Ex (by decide)))).ext E14).other W20 (Or.inl (Exa.ne Sm.1.1 Ex (by decide)))).keep Kq23 (ninS (Ne.symm hsm) nin0)), (((((Sm.1.2.2.2.1.ext E5).other W11 (Ne.symm (Exa.neArv Ex Sm.1.2.2.2.1 (hw _ (List.mem_of_getElem? (i := 38) rfl))))).ext E14).other W20 (Ne.symm (Exa.neArv Ex Sm.1.2.2.2.1 (hw _ (List.mem_of_getElem? (i := 38) rfl))))).keep Kq23 (ninS (Ne.symm (Exa.neArv Sx.1.1 Sm.1.2.2.2.1 (hw _ (List.mem_of_getElem? (i := 5) rfl)))) nin0)), Sm.1.2.2.2.2.1, Sm.1.2.2.2.2.2⟩, (((((Sm.2.1.ext E5).other W11 (Or.inl (Exa.ne Sm.1.1 Ex (by decide)))).ext E14).other W20 (Or.inl (Exa.ne Sm.1.1 Ex (by decide)))).keep Kq23 (ninS (Ne.symm hsm) nin0)), (((((Sm.2.2.1.ext E5).other W11 (Or.inl (Exa.ne Sm.1.1 Ex (by decide)))).ext E14).other W20 (Or.inl (Exa.ne Sm.1.1 Ex (by decide)))).keep Kq23 (ninS (Ne.symm hsm) nin0)), Sm.2.2.2⟩ O2 P5 (((((X00.ext E5).wr W11 g_x).ext E14).wr W20 g_x).keep Kq23 (allS g_sx all0))) hZ14 (hw _ (List.mem_of_getElem? (i := 59) rfl)) (hw _ (List.mem_of_getElem? (i := 6) rfl)) (by decide) (by decide)) q26a q26c (g := (mkF m 39 #[.val (.ref x), .val (.ref sx), .val (.ref mx)] [(.ref mx), (.int ((31 : Int32) * (own_hash cs))), (.ref x)])) rfl (by rw [hml]; rfl) (Steps.refl _) (argsL := []) (rest := [(.int ((31 : Int32) * (own_hash cs))), (.ref x)]) (lenOf pd_ocI rfl) rfl (by show 2 * 0 + _ ≤ _; exact Nat.le_of_eq rfl) (hb hby d_prog_27_method_1_code_39) (fun _ _ => ⟨rfl, rfl, (by decide : 4 + 0 ≤ _), (by decide : 60 + 0 ≤ _)⟩)
  dsimp only [Pt.U, Pt.locs, Pt.cells, Pt.slots] at X26 l26 y26 z26 st26 hQ26
  subst l26 y26 z26
  obtain ⟨rfl, Nq26, Kq26, So26⟩ := hQ26
  have c27 : Steps p.tables e below S0 (T26.setTop (mkF m 42 #[.val (.ref x), .val (.ref sx), .val (.ref mx)] [(.int (own_hash ds)), (.int ((31 : Int32) * (own_hash cs))), (.ref x)])) := c25.trans (st26)
  have N26 := Fr.app N23 Nq26
  have z26 : n0 ≤ T26.heap.size := Nat.le_trans z23 Kq26.1
  have K26 := K23.trans Kq26 (allS (Or.inl (by simp)) all0)
  have r26 : CHr Z EL0 T14.vm T23.heap T14.vm T26.heap := CHr.keep Kq26 (sfS own_safe0 sf0) R23.1
  have R26 := R23.trans r26
  have c28 : Steps p.tables e below S0 (T26.setTop (mkF m 43 #[.val (.ref x), .val (.ref sx), .val (.ref mx)] [(.int (((31 : Int32) * (own_hash cs)) + (own_hash ds))), (.ref x)])) := c27.trans (by
    show Steps p.tables e below (T26.setTop (mkF m 42 #[.val (.ref x), .val (.ref sx), .val (.ref mx)] [(.int (own_hash ds)), (.int ((31 : Int32) * (own_hash cs))), (.ref x)])) _
    refine XS.iadd X26.here hx rfl (hb hby d_prog_27_method_1_code_42) rfl ?_
    exact Steps.refl _)
  obtain ⟨T29, h29, X29, e29, W29, st29⟩ := putF X26 hx hZ14 hown14 (host := "") (Or.inl (hw _ (List.mem_of_getElem? (i := 73) rfl))) Via.refl rfl ((((((F2.ext E5).other W11 (Or.inr (slot_ne (Or.inr (hw _ (List.mem_of_getElem? (i := 74) rfl))) (Or.inr (hw _ (List.mem_of_getElem? (i := 51) rfl))) (by decide) (t := .int) (t' := (.object "java/lang/String")) (by decide) (by decide)))).ext E14).other W20 (Or.inr (slot_ne (Or.inr (hw _ (List.mem_of_getElem? (i := 74) rfl))) (Or.inr (hw _ (List.mem_of_getElem? (i := 54) rfl))) (by decide) (t := .int) (t' := (.object "java/lang/String")) (by decide) (by decide)))).keep Kq23 (ninS (Ne.symm (Exa.ne Sx.1.1 Ex (by decide))) nin0)).keep Kq26 (ninS (Ne.symm (Exa.ne Sm.1.1 Ex (by decide))) nin0)) ((((((Ex.ext E5).wr W11).ext E14).wr W20).keep Kq23).keep Kq26) (Or.inr ⟨(hw _ (List.mem_of_getElem? (i := 74) rfl)), rfl, hnm⟩) (hw _ (List.mem_of_getElem? (i := 38) rfl)) (ty := .int) (by decide) rfl rfl (g := (mkF m 43 #[.val (.ref x), .val (.ref sx), .val (.ref mx)] [(.int (((31 : Int32) * (own_hash cs)) + (own_hash ds))), (.ref x)])) rfl rfl (hb hby d_prog_27_method_1_code_43)
  have c30 : Steps p.tables e below S0 (T29.setTop (mkF m 46 #[.val (.ref x), .val (.ref sx), .val (.ref mx)] [])) := c28.trans (st29 _ (Steps.refl _))
  have N29 := Fr.snoc X29 N26 g_x
  have Fw29 := ((((((F2.ext E5).other W11 (Or.inr (slot_ne (Or.inr (hw _ (List.mem_of_getElem? (i := 74) rfl))) (Or.inr (hw _ (List.mem_of_getElem? (i := 51) rfl))) (by decide) (t := .int) (t' := (.object "java/lang/String")) (by decide) (by decide)))).ext E14).other W20 (Or.inr (slot_ne (Or.inr (hw _ (List.mem_of_getElem? (i := 74) rfl))) (Or.inr (hw _ (List.mem_of_getElem? (i := 54) rfl))) (by decide) (t := .int) (t' := (.object "java/lang/String")) (by decide) (by decide)))).keep Kq23 (ninS (Ne.symm (Exa.ne Sx.1.1 Ex (by decide))) nin0)).keep Kq26 (ninS (Ne.symm (Exa.ne Sm.1.1 Ex (by decide))) nin0)).same W29
  have z29 : n0 ≤ h29.size := Nat.le_trans z26 (Keep.of_wr W29).1
  have K29 := K26.wr W29 (Or.inl (by simp))
  have r29 : CHr Z EL0 T14.vm T26.heap T14.vm h29 := CHr.wr W29 own_safe0 R26.1
  have R29 := R26.trans r29
  obtain ⟨fs, hr, hrun, hended, hW⟩ := X29.leaveW hS14 (by rw [e29]; exact (Nat.le_trans hk14 (Nat.le_trans (Nat.le_trans (Nat.le_trans (Keep.of_wr W20).1 Kq23.1) Kq26.1) (Keep.of_wr W29).1))) (v := none) (fun h => rfl)
  refine ⟨_, _, c30.trans (X29.returnOut hx Bd.returns (hb hby d_prog_27_method_1_code_46) hr), hrun, hended, _, _, rfl, ?_, ?_, hW.1, hW.2.1, hW.2.2.1, hW.2.2.2.mono (by first | decide | exact Nat.le_of_ble_eq_true rfl) (by first | decide | exact Nat.le_of_ble_eq_true rfl)⟩
  · show QRt Z x sx tx mx ux kx km cs ds h0 n0 _ T29.heap _
    rw [e29]
    exact ⟨rfl, N29, K29, (((((((Ex.ext E5).wr W11).ext E14).wr W20).keep Kq23).keep Kq26).wr W29), (((((Fw11.ext E14).other W20 (Or.inr (slot_ne (Or.inr (hw _ (List.mem_of_getElem? (i := 51) rfl))) (Or.inr (hw _ (List.mem_of_getElem? (i := 54) rfl))) (by decide) (t := (.object "java/lang/String")) (t' := (.object "java/lang/String")) (by decide) (by decide)))).keep Kq23 (ninS (Ne.symm (Exa.ne Sx.1.1 Ex (by decide))) nin0)).keep Kq26 (ninS (Ne.symm (Exa.ne Sm.1.1 Ex (by decide))) nin0)).other W29 (Or.inr (slot_ne (Or.inr (hw _ (List.mem_of_getElem? (i := 51) rfl))) (Or.inr (hw _ (List.mem_of_getElem? (i := 74) rfl))) (by decide) (t := (.object "java/lang/String")) (t' := .int) (by decide) (by decide)))), (((Fw20.keep Kq23 (ninS (Ne.symm (Exa.ne Sx.1.1 Ex (by decide))) nin0)).keep Kq26 (ninS (Ne.symm (Exa.ne Sm.1.1 Ex (by decide))) nin0)).other W29 (Or.inr (slot_ne (Or.inr (hw _ (List.mem_of_getElem? (i := 54) rfl))) (Or.inr (hw _ (List.mem_of_getElem? (i := 74) rfl))) (by decide) (t := (.object "java/lang/String")) (t' := .int) (by decide) (by decide)))), Fw29, ⟨((So23.1.keep Kq26).wr W29), ((So23.2.1.keep Kq26 (ninS hsm nin0)).other W29 (Or.inl (Exa.ne Sx.1.1 Ex (by decide)))), ((So23.2.2.1.keep Kq26 (ninS hsm nin0)).other W29 (Or.inl (Exa.ne Sx.1.1 Ex (by decide)))), ((So23.2.2.2.1.keep Kq26 (ninS (Ne.symm (Exa.neArv Sm.1.1 Sx.1.2.2.2.1 (hw _ (List.mem_of_getElem? (i := 5) rfl)))) nin0)).other W29 (Ne.symm (Exa.neArv Ex Sx.1.2.2.2.1 (hw _ (List.mem_of_getElem? (i := 38) rfl))))), So23.2.2.2.2.1, So23.2.2.2.2.2⟩, ⟨(So26.1.wr W29), (So26.2.1.other W29 (Or.inl (Exa.ne Sm.1.1 Ex (by decide)))), (So26.2.2.1.other W29 (Or.inl (Exa.ne Sm.1.1 Ex (by decide)))), (So26.2.2.2.1.other W29 (Ne.symm (Exa.neArv Ex Sm.1.2.2.2.1 (hw _ (List.mem_of_getElem? (i := 38) rfl))))), So26.2.2.2.2.1, So26.2.2.2.2.2⟩⟩
  · show CHr Z EL0 s.vm s.heap T29.vm T29.heap
    rw [hh, e29]; exact R29.trans (CHv.at X29 hZ14 hEL R29.1)

def QE0 (Z : State) (h0 : Heap) (n0 : Nat) (v : Option Value) (h : Heap) (L : List Loc) : Prop := v = some (.int 0) ∧ Fr n0 L ∧ h = h0

theorem d_prog_27_method_4_code_0 : decode prog_27_method_4_code 0 = .ok (.aload_n 1, 1) := by decide +kernel
theorem d_prog_27_method_4_code_1 : decode prog_27_method_4_code 1 = .ok (.instanceof 18, 3) := by decide +kernel
theorem d_prog_27_method_4_code_4 : decode prog_27_method_4_code 4 = .ok (.ifCond .eq 51, 3) := by decide +kernel
theorem d_prog_27_method_4_code_55 : decode prog_27_method_4_code 55 = .ok (.iconst 0, 1) := by decide +kernel
theorem d_prog_27_method_4_code_56 : decode prog_27_method_4_code 56 = .ok (.ireturn, 1) := by decide +kernel
theorem ef_rmEqN (m : MethodId) (x0 : Addr) : entryFrame m #[(.ref x0), .null] 3 = mkF m 0 #[.val (.ref x0), .val .null, .unset] [] := by first | (simp [entryFrame, mkF, argsToLocals, Value.category]; done) | rfl
set_option maxRecDepth 65536 in
set_option maxHeartbeats 40000000 in
theorem rmEqN (l : Launch) (Z : State) (a0 : Array Value) (hw : ∀ d ∈ tables_1, d.before a0 Z = true) (ws : List Jvm.Cond) (x : Addr) (h0 : Heap) (n0 : Nat) (Z0 : n0 ≤ h0.size)  :
    MetFree l (⟨"com/example/evenkeel/evenkeel/Route", "equals", "(Ljava/lang/Object;)Z"⟩ : MethodName) (head1 (Jvm.Cond.code (⟨"com/example/evenkeel/evenkeel/Route", "equals", "(Ljava/lang/Object;)Z"⟩ : MethodName) prog_27_method_4_code 3 (some .boolean) :: ws) ({ frames := 0, cells := 0, slots := 0, locals := 0 } : Room)) (fun aa U => aa = #[(.ref x), .null] ∧ Z.Warmed39 U.vm ∧ U.heap = h0) (fun _ _ _ _ _ => True) (fun _ U o U' => ∃ v L, o = .returned v ∧ QE0 Z  h0 n0 v U'.heap L ∧ FrameEnd U o U' L ({ frames := 0, cells := 0, slots := 0, locals := 0 } : Room).cells ({ frames := 0, cells := 0, slots := 0, locals := 0 } : Room).slots) := by
  refine MetFree.of_bodySF (plainFor_of_name pn_com_example_evenkeel_evenkeel_Route) hisR ?_
  intro p e s m args below meth c s₁ Bd hml0 hP hK
  obtain ⟨rfl, hZ, hh⟩ := hP
  have hx := Bd.exec
  have hby := Bd.bytes
  have hml : c.maxLocals = 3 := hml0
  have hown : s.vm.findClass "com/example/evenkeel/evenkeel/Route" = some m.cls := findClass_of_methodNamed Bd.named
  have hnm := (name_of_methodNamed Bd.named Bd.method).1
  have X0 : Stand p l e ({ frames := 0, cells := 0, slots := 0, locals := 0 } : Room) s m #[(.ref x), .null] below meth c s₁ [] 0 0 := Stand.of_body Bd
  have e0 : s₁.heap = h0 := by rw [← hh, Bd.state]; rfl
  have N0 := Fr.nil n0
  have K0 := Keep.refl h0 []
  obtain ⟨S0, hS0⟩ : ∃ z, z = s₁.setTop (entryFrame m #[(.ref x), .null] 3) := ⟨_, rfl⟩
  rw [← hS0]
  have c0 : Steps p.tables e below S0 (s₁.setTop (mkF m 0 #[.val (.ref x), .val .null, .unset] [])) := by
    rw [hS0]; exact castTop (ef_rmEqN m x) (Steps.refl _)
  have c1 : Steps p.tables e below S0 (s₁.setTop (mkF m 56 #[.val (.ref x), .val .null, .unset] [(.int (0 : Int32))])) := c0.trans (by
    show Steps p.tables e below (s₁.setTop (mkF m 0 #[.val (.ref x), .val .null, .unset] [])) _
    refine XS.aloadN X0.here hx rfl (hb hby d_prog_27_method_4_code_0) rfl rfl ?_
    show Steps p.tables e below (s₁.setTop (mkF m 1 #[.val (.ref x), .val .null, .unset] [.null])) _
    refine X0.instanceofNull hx (g := (mkF m 1 #[.val (.ref x), .val .null, .unset] [.null])) rfl rfl (hb hby d_prog_27_method_4_code_1) _ ?_
    refine XS.ifYes X0.here hx rfl (pc0 := 4) (pc' := 55) rfl (hb hby d_prog_27_method_4_code_4) rfl ((if0 _ _).trans (teq (by decide : ((0 : Int32) = (0 : Int32)))).1) (by decide) (by decide) ?_
    refine XS.iconst X0.here hx rfl (hb hby d_prog_27_method_4_code_55) ?_
    exact Steps.refl _)
  obtain ⟨fs, hr, hrun, hended, hW, hsame⟩ := X0.leave (v := some (.int (0 : Int32))) (fun h => by rw [Bd.returns] at h; cases h)
  refine ⟨_, _, c1.trans (retOut X0 hx Bd.returns rfl (Or.inl ⟨rfl, by simp, _, rfl⟩) (hb hby d_prog_27_method_4_code_56) hr), hrun, hended, _, _, rfl, ?_, ⟨_, rfl⟩, hW, hsame.mono (by first | decide | exact Nat.le_of_ble_eq_true rfl) (by first | decide | exact Nat.le_of_ble_eq_true rfl)⟩
  show QE0 Z  h0 n0 _ s₁.heap _
  rw [e0]
  exact ⟨rfl, N0, rfl⟩

theorem own_nosub {Z : State} {a0 : Array Value} (hw : ∀ d ∈ tables_1, d.before a0 Z = true) : ∃ c t, Z.vm.findClass "java/lang/String" = some c ∧ Z.vm.findClass "com/example/evenkeel/evenkeel/Route" = some t ∧ Z.vm.assignable c t = false := by
  have w1 := (hw _ (List.mem_of_getElem? (i := 103) rfl))
  obtain ⟨t, kt, t1, t2, t3, t4, -⟩ := Cond.instantiable_spec (hw _ (List.mem_of_getElem? (i := 38) rfl))
  obtain ⟨c, c1⟩ := found_sup w1
  obtain ⟨p, k, kp, p1, p2, p3, p4, p5, p6, p7⟩ := Cond.superclass_spec c1 w1
  obtain ⟨q, kq, q1, q2, q3, -⟩ := Cond.noSuperclass_spec (hw _ (List.mem_of_getElem? (i := 104) rfl))
  cases p1.symm.trans q1
  have e1 := ids_ne c1 t1 (by decide)
  have e2 := ids_ne p1 t1 (by decide)
  have ki : kt.isInterface = false := (Bool.or_eq_false_iff.mp t4).1
  have sub : ∀ f, Z.vm.isSubclassAux f c t = false := fun f => by
    cases f with
    | zero => rfl
    | succ f =>
      cases f with
      | zero => simp [Vm.isSubclassAux, e1, p2, p4]
      | succ f => simp [Vm.isSubclassAux, e1, p2, p4, e2, q2, q3]
  refine ⟨c, t, c1, t1, ?_⟩
  show Z.vm.assignableAux (255 + 1) c t = false
  simp [Vm.assignableAux, e1, p2, t2, p5, t3, ki, Vm.isSubclass, sub]

theorem ef_rmEqS (m : MethodId) (x0 : Addr) (x1 : Addr) : entryFrame m #[(.ref x0), (.ref x1)] 3 = mkF m 0 #[.val (.ref x0), .val (.ref x1), .unset] [] := by first | (simp [entryFrame, mkF, argsToLocals, Value.category]; done) | rfl
set_option maxRecDepth 65536 in
set_option maxHeartbeats 40000000 in
theorem rmEqS (l : Launch) (Z : State) (a0 : Array Value) (hw : ∀ d ∈ tables_1, d.before a0 Z = true) (ws : List Jvm.Cond) (x sx : Addr) (h0 : Heap) (n0 : Nat) (Z0 : n0 ≤ h0.size) (Es : Exa Z h0 sx "java/lang/String") :
    MetFree l (⟨"com/example/evenkeel/evenkeel/Route", "equals", "(Ljava/lang/Object;)Z"⟩ : MethodName) (head1 (Jvm.Cond.code (⟨"com/example/evenkeel/evenkeel/Route", "equals", "(Ljava/lang/Object;)Z"⟩ : MethodName) prog_27_method_4_code 3 (some .boolean) :: ws) ({ frames := 0, cells := 0, slots := 0, locals := 0 } : Room)) (fun aa U => aa = #[(.ref x), (.ref sx)] ∧ Z.Warmed39 U.vm ∧ U.heap = h0) (fun _ _ _ _ _ => True) (fun _ U o U' => ∃ v L, o = .returned v ∧ QE0 Z  h0 n0 v U'.heap L ∧ FrameEnd U o U' L ({ frames := 0, cells := 0, slots := 0, locals := 0 } : Room).cells ({ frames := 0, cells := 0, slots := 0, locals := 0 } : Room).slots) := by
  refine MetFree.of_bodySF (plainFor_of_name pn_com_example_evenkeel_evenkeel_Route) hisR ?_
  intro p e s m args below meth c s₁ Bd hml0 hP hK
  obtain ⟨rfl, hZ, hh⟩ := hP
  have hx := Bd.exec
  have hby := Bd.bytes
  have hml : c.maxLocals = 3 := hml0
  have hown : s.vm.findClass "com/example/evenkeel/evenkeel/Route" = some m.cls := findClass_of_methodNamed Bd.named
  have hnm := (name_of_methodNamed Bd.named Bd.method).1
  have X0 : Stand p l e ({ frames := 0, cells := 0, slots := 0, locals := 0 } : Room) s m #[(.ref x), (.ref sx)] below meth c s₁ [] 0 0 := Stand.of_body Bd
  have e0 : s₁.heap = h0 := by rw [← hh, Bd.state]; rfl
  have N0 := Fr.nil n0
  have K0 := Keep.refl h0 []
  obtain ⟨S0, hS0⟩ : ∃ z, z = s₁.setTop (entryFrame m #[(.ref x), (.ref sx)] 3) := ⟨_, rfl⟩
  rw [← hS0]
  have c0 : Steps p.tables e below S0 (s₁.setTop (mkF m 0 #[.val (.ref x), .val (.ref sx), .unset] [])) := by
    rw [hS0]; exact castTop (ef_rmEqS m x sx) (Steps.refl _)
  have c1 : Steps p.tables e below S0 (s₁.setTop (mkF m 1 #[.val (.ref x), .val (.ref sx), .unset] [(.ref sx)])) := c0.trans (by
    show Steps p.tables e below (s₁.setTop (mkF m 0 #[.val (.ref x), .val (.ref sx), .unset] [])) _
    refine XS.aloadN X0.here hx rfl (hb hby d_prog_27_method_4_code_0) rfl rfl ?_
    exact Steps.refl _)
  obtain ⟨T2, X2, e2, st2⟩ := instNo X0 hx hZ hown (hw _ (List.mem_of_getElem? (i := 92) rfl)) e0 Es (own_nosub hw) (g := (mkF m 1 #[.val (.ref x), .val (.ref sx), .unset] [(.ref sx)])) rfl rfl (hb hby d_prog_27_method_4_code_1)
  have c3 : Steps p.tables e below S0 (T2.setTop (mkF m 4 #[.val (.ref x), .val (.ref sx), .unset] [(.int (0 : Int32))])) := c1.trans (st2 _ (Steps.refl _))
  have c4 : Steps p.tables e below S0 (T2.setTop (mkF m 56 #[.val (.ref x), .val (.ref sx), .unset] [(.int (0 : Int32))])) := c3.trans (by
    show Steps p.tables e below (T2.setTop (mkF m 4 #[.val (.ref x), .val (.ref sx), .unset] [(.int (0 : Int32))])) _
    refine XS.ifYes X2.here hx rfl (pc0 := 4) (pc' := 55) rfl (hb hby d_prog_27_method_4_code_4) rfl ((if0 _ _).trans (teq (by decide : ((0 : Int32) = (0 : Int32)))).1) (by decide) (by decide) ?_
    refine XS.iconst X2.here hx rfl (hb hby d_prog_27_method_4_code_55) ?_
    exact Steps.refl _)
  obtain ⟨fs, hr, hrun, hended, hW, hsame⟩ := X2.leave (v := some (.int (0 : Int32))) (fun h => by rw [Bd.returns] at h; cases h)
  refine ⟨_, _, c4.trans (retOut X2 hx Bd.returns rfl (Or.inl ⟨rfl, by simp, _, rfl⟩) (hb hby d_prog_27_method_4_code_56) hr), hrun, hended, _, _, rfl, ?_, ⟨_, rfl⟩, hW, hsame.mono (by first | decide | exact Nat.le_of_ble_eq_true rfl) (by first | decide | exact Nat.le_of_ble_eq_true rfl)⟩
  show QE0 Z  h0 n0 _ T2.heap _
  rw [e2]
  exact ⟨rfl, N0, rfl⟩

def QEq (Z : State) (P : Prop) (h0 : Heap) (n0 : Nat) (v : Option Value) (h : Heap) (L : List Loc) : Prop := ∃ r : Int32, v = some (.int r) ∧ TF r P ∧ Fr n0 L ∧ h = h0

theorem d_prog_27_method_4_code_7 : decode prog_27_method_4_code 7 = .ok (.aload_n 1, 1) := by decide +kernel
theorem d_prog_27_method_4_code_8 : decode prog_27_method_4_code 8 = .ok (.checkcast 18, 3) := by decide +kernel
theorem d_prog_27_method_4_code_11 : decode prog_27_method_4_code 11 = .ok (.astore_n 2, 1) := by decide +kernel
theorem d_prog_27_method_4_code_12 : decode prog_27_method_4_code 12 = .ok (.aload_n 0, 1) := by decide +kernel
theorem d_prog_27_method_4_code_13 : decode prog_27_method_4_code 13 = .ok (.getfield 30, 3) := by decide +kernel
theorem d_prog_27_method_4_code_16 : decode prog_27_method_4_code 16 = .ok (.aload_n 2, 1) := by decide +kernel
theorem d_prog_27_method_4_code_17 : decode prog_27_method_4_code 17 = .ok (.getfield 30, 3) := by decide +kernel
theorem d_prog_27_method_4_code_20 : decode prog_27_method_4_code 20 = .ok (.if_icmp .ne 35, 3) := by decide +kernel
theorem d_prog_27_method_4_code_23 : decode prog_27_method_4_code 23 = .ok (.aload_n 0, 1) := by decide +kernel
theorem d_prog_27_method_4_code_24 : decode prog_27_method_4_code 24 = .ok (.getfield 17, 3) := by decide +kernel
theorem d_prog_27_method_4_code_27 : decode prog_27_method_4_code 27 = .ok (.aload_n 2, 1) := by decide +kernel
theorem d_prog_27_method_4_code_28 : decode prog_27_method_4_code 28 = .ok (.getfield 17, 3) := by decide +kernel
theorem pd_oLjavaslangsObjectecZ : parseMethodDescriptor "(Ljava/lang/Object;)Z" = some ⟨[(.object "java/lang/Object")], some .boolean⟩ := by decide +kernel
theorem d_prog_27_method_4_code_31 : decode prog_27_method_4_code 31 = .ok (.invokevirtual 34, 3) := by decide +kernel
theorem d_prog_27_method_4_code_34 : decode prog_27_method_4_code 34 = .ok (.ifCond .eq 21, 3) := by decide +kernel
theorem d_prog_27_method_4_code_37 : decode prog_27_method_4_code 37 = .ok (.aload_n 0, 1) := by decide +kernel
theorem d_prog_27_method_4_code_38 : decode prog_27_method_4_code 38 = .ok (.getfield 24, 3) := by decide +kernel
theorem d_prog_27_method_4_code_41 : decode prog_27_method_4_code 41 = .ok (.aload_n 2, 1) := by decide +kernel
theorem d_prog_27_method_4_code_42 : decode prog_27_method_4_code 42 = .ok (.getfield 24, 3) := by decide +kernel
theorem d_prog_27_method_4_code_45 : decode prog_27_method_4_code 45 = .ok (.invokevirtual 34, 3) := by decide +kernel
theorem d_prog_27_method_4_code_48 : decode prog_27_method_4_code 48 = .ok (.ifCond .eq 7, 3) := by decide +kernel
theorem d_prog_27_method_4_code_51 : decode prog_27_method_4_code 51 = .ok (.iconst 1, 1) := by decide +kernel
theorem d_prog_27_method_4_code_52 : decode prog_27_method_4_code 52 = .ok (.goto 4, 3) := by decide +kernel
theorem ef_rmEq (m : MethodId) (x0 : Addr) (x1 : Addr) : entryFrame m #[(.ref x0), (.ref x1)] 3 = mkF m 0 #[.val (.ref x0), .val (.ref x1), .unset] [] := by first | (simp [entryFrame, mkF, argsToLocals, Value.category]; done) | rfl
set_option maxRecDepth 65536 in
set_option maxHeartbeats 40000000 in
theorem rmEq (l : Launch) (Z : State) (a0 : Array Value) (hw : ∀ d ∈ tables_1, d.before a0 Z = true) (ws : List Jvm.Cond) (x y sx tx mx ux sy ty my uy : Addr) (kx km ky kn : ClassId) (cs ds cs2 ds2 : List Int32) (G1 : Int32) (h0 : Heap) (n0 : Nat) (Z0 : n0 ≤ h0.size) (Ey : Exa Z h0 y "com/example/evenkeel/evenkeel/Route") (A0 : Fld Z h0 x "com/example/evenkeel/evenkeel/Route" "service" "Ljava/lang/String;" (.ref sx)) (A1 : Fld Z h0 x "com/example/evenkeel/evenkeel/Route" "method" "Ljava/lang/String;" (.ref mx)) (A2 : Fld Z h0 x "com/example/evenkeel/evenkeel/Route" "hash" "I" (.int (((31 : Int32) * (own_hash cs)) + (own_hash ds)))) (B0 : Fld Z h0 y "com/example/evenkeel/evenkeel/Route" "service" "Ljava/lang/String;" (.ref sy)) (B1 : Fld Z h0 y "com/example/evenkeel/evenkeel/Route" "method" "Ljava/lang/String;" (.ref my)) (B2 : Fld Z h0 y "com/example/evenkeel/evenkeel/Route" "hash" "I" (.int (((31 : Int32) * (own_hash cs2)) + (own_hash ds2)))) (Sx : OStr Z h0 sx tx kx cs) (Sm : OStr Z h0 mx ux km ds) (Sy : OStr Z h0 sy ty ky cs2) (Sn : OStr Z h0 my uy kn ds2) (O2 : Sta Z Z.heap "java/lang/String" "COMPACT_STRINGS" "Z" (.int G1)) (P5 : ¬ G1 = 0) (X00 : Old Z n0 h0) :
    MetFree l (⟨"com/example/evenkeel/evenkeel/Route", "equals", "(Ljava/lang/Object;)Z"⟩ : MethodName) (head1 (Jvm.Cond.code (⟨"com/example/evenkeel/evenkeel/Route", "equals", "(Ljava/lang/Object;)Z"⟩ : MethodName) prog_27_method_4_code 3 (some .boolean) :: ws) ({ frames := 2, cells := 0, slots := 0, locals := 28 } : Room)) (fun aa U => aa = #[(.ref x), (.ref y)] ∧ Z.Warmed39 U.vm ∧ U.heap = h0) (fun _ _ _ _ _ => True) (fun _ U o U' => ∃ v L, o = .returned v ∧ QEq Z (cs = cs2 ∧ ds = ds2) h0 n0 v U'.heap L ∧ FrameEnd U o U' L ({ frames := 2, cells := 0, slots := 0, locals := 28 } : Room).cells ({ frames := 2, cells := 0, slots := 0, locals := 28 } : Room).slots) := by
  refine MetFree.of_bodySF (plainFor_of_name pn_com_example_evenkeel_evenkeel_Route) hisR ?_
  intro p e s m args below meth c s₁ Bd hml0 hP hK
  obtain ⟨rfl, hZ, hh⟩ := hP
  have hx := Bd.exec
  have hby := Bd.bytes
  have hml : c.maxLocals = 3 := hml0
  have hown : s.vm.findClass "com/example/evenkeel/evenkeel/Route" = some m.cls := findClass_of_methodNamed Bd.named
  have hnm := (name_of_methodNamed Bd.named Bd.method).1
  have X0 : Stand p l e ({ frames := 2, cells := 0, slots := 0, locals := 28 } : Room) s m #[(.ref x), (.ref y)] below meth c s₁ [] 0 0 := Stand.of_body Bd
  have e0 : s₁.heap = h0 := by rw [← hh, Bd.state]; rfl
  have N0 := Fr.nil n0
  have K0 := Keep.refl h0 []
  obtain ⟨S0, hS0⟩ : ∃ z, z = s₁.setTop (entryFrame m #[(.ref x), (.ref y)] 3) := ⟨_, rfl⟩
  rw [← hS0]
  have c0 : Steps p.tables e below S0 (s₁.setTop (mkF m 0 #[.val (.ref x), .val (.ref y), .unset] [])) := by
    rw [hS0]; exact castTop (ef_rmEq m x y) (Steps.refl _)
  have c1 : Steps p.tables e below S0 (s₁.setTop (mkF m 1 #[.val (.ref x), .val (.ref y), .unset] [(.ref y)])) := c0.trans (by
    show Steps p.tables e below (s₁.setTop (mkF m 0 #[.val (.ref x), .val (.ref y), .unset] [])) _
    refine XS.aloadN X0.here hx rfl (hb hby d_prog_27_method_4_code_0) rfl rfl ?_
    exact Steps.refl _)
  obtain ⟨T2, X2, e2, st2⟩ := instY X0 hx hZ hown (hw _ (List.mem_of_getElem? (i := 92) rfl)) e0 (Ins.self Ey) (g := (mkF m 1 #[.val (.ref x), .val (.ref y), .unset] [(.ref y)])) rfl rfl (hb hby d_prog_27_method_4_code_1)
  have c3 : Steps p.tables e below S0 (T2.setTop (mkF m 4 #[.val (.ref x), .val (.ref y), .unset] [(.int (1 : Int32))])) := c1.trans (st2 _ (Steps.refl _))
  have c4 : Steps p.tables e below S0 (T2.setTop (mkF m 8 #[.val (.ref x), .val (.ref y), .unset] [(.ref y)])) := c3.trans (by
    show Steps p.tables e below (T2.setTop (mkF m 4 #[.val (.ref x), .val (.ref y), .unset] [(.int (1 : Int32))])) _
    refine XS.ifNo X2.here hx rfl (hb hby d_prog_27_method_4_code_4) rfl ((if0 _ _).trans (feq (by decide : ¬ ((1 : Int32) = (0 : Int32)))).1) ?_
    refine XS.aloadN X2.here hx rfl (hb hby d_prog_27_method_4_code_7) rfl rfl ?_
    exact Steps.refl _)
  obtain ⟨T5, X5, e5, st5⟩ := castY X2 hx hZ hown (hw _ (List.mem_of_getElem? (i := 92) rfl)) e2 (Ins.self Ey) (g := (mkF m 8 #[.val (.ref x), .val (.ref y), .unset] [(.ref y)])) rfl rfl (hb hby d_prog_27_method_4_code_8)
  have c6 : Steps p.tables e below S0 (T5.setTop (mkF m 11 #[.val (.ref x), .val (.ref y), .unset] [(.ref y)])) := c4.trans (st5 _ (Steps.refl _))
  have c7 : Steps p.tables e below S0 (T5.setTop (mkF m 13 #[.val (.ref x), .val (.ref y), .val (.ref y)] [(.ref x)])) := c6.trans (by
    show Steps p.tables e below (T5.setTop (mkF m 11 #[.val (.ref x), .val (.ref y), .unset] [(.ref y)])) _
    refine XS.astoreN X5.here hx rfl (hb hby d_prog_27_method_4_code_11) rfl rfl (l' := #[.val (.ref x), .val (.ref y), .val (.ref y)]) rfl ?_
    refine XS.aloadN X5.here hx rfl (hb hby d_prog_27_method_4_code_12) rfl rfl ?_
    exact Steps.refl _)
  obtain ⟨T8, X8, e8, st8⟩ := getF X5 hx hZ hown (host := "") (Or.inl (hw _ (List.mem_of_getElem? (i := 73) rfl))) Via.refl e5 A2 (g := (mkF m 13 #[.val (.ref x), .val (.ref y), .val (.ref y)] [(.ref x)])) rfl rfl (hb hby d_prog_27_method_4_code_13)
  have c9 : Steps p.tables e below S0 (T8.setTop (mkF m 16 #[.val (.ref x), .val (.ref y), .val (.ref y)] [(.int (((31 : Int32) * (own_hash cs)) + (own_hash ds)))])) := c7.trans (st8 _ (Steps.refl _))
  have c10 : Steps p.tables e below S0 (T8.setTop (mkF m 17 #[.val (.ref x), .val (.ref y), .val (.ref y)] [(.ref y), (.int (((31 : Int32) * (own_hash cs)) + (own_hash ds)))])) := c9.trans (by
    show Steps p.tables e below (T8.setTop (mkF m 16 #[.val (.ref x), .val (.ref y), .val (.ref y)] [(.int (((31 : Int32) * (own_hash cs)) + (own_hash ds)))])) _
    refine XS.aloadN X8.here hx rfl (hb hby d_prog_27_method_4_code_16) rfl rfl ?_
    exact Steps.refl _)
  obtain ⟨T11, X11, e11, st11⟩ := getF X8 hx hZ hown (host := "") (Or.inl (hw _ (List.mem_of_getElem? (i := 73) rfl))) Via.refl e8 B2 (g := (mkF m 17 #[.val (.ref x), .val (.ref y), .val (.ref y)] [(.ref y), (.int (((31 : Int32) * (own_hash cs)) + (own_hash ds)))])) rfl rfl (hb hby d_prog_27_method_4_code_17)
  have c12 : Steps p.tables e below S0 (T11.setTop (mkF m 20 #[.val (.ref x), .val (.ref y), .val (.ref y)] [(.int (((31 : Int32) * (own_hash cs2)) + (own_hash ds2))), (.int (((31 : Int32) * (own_hash cs)) + (own_hash ds)))])) := c10.trans (st11 _ (Steps.refl _))
  by_cases hq13 : (((31 : Int32) * (own_hash cs)) + (own_hash ds)) = (((31 : Int32) * (own_hash cs2)) + (own_hash ds2))
  · have c14 : Steps p.tables e below S0 (T11.setTop (mkF m 24 #[.val (.ref x), .val (.ref y), .val (.ref y)] [(.ref x)])) := c12.trans (by
      show Steps p.tables e below (T11.setTop (mkF m 20 #[.val (.ref x), .val (.ref y), .val (.ref y)] [(.int (((31 : Int32) * (own_hash cs2)) + (own_hash ds2))), (.int (((31 : Int32) * (own_hash cs)) + (own_hash ds)))])) _
      refine XS.icmpNo X11.here hx rfl (hb hby d_prog_27_method_4_code_20) rfl (teq hq13).2 ?_
      refine XS.aloadN X11.here hx rfl (hb hby d_prog_27_method_4_code_23) rfl rfl ?_
      exact Steps.refl _)
    obtain ⟨T15, X15, e15, st15⟩ := getF X11 hx hZ hown (host := "") (Or.inl (hw _ (List.mem_of_getElem? (i := 50) rfl))) Via.refl e11 A0 (g := (mkF m 24 #[.val (.ref x), .val (.ref y), .val (.ref y)] [(.ref x)])) rfl rfl (hb hby d_prog_27_method_4_code_24)
    have c16 : Steps p.tables e below S0 (T15.setTop (mkF m 27 #[.val (.ref x), .val (.ref y), .val (.ref y)] [(.ref sx)])) := c14.trans (st15 _ (Steps.refl _))
    have c17 : Steps p.tables e below S0 (T15.setTop (mkF m 28 #[.val (.ref x), .val (.ref y), .val (.ref y)] [(.ref y), (.ref sx)])) := c16.trans (by
      show Steps p.tables e below (T15.setTop (mkF m 27 #[.val (.ref x), .val (.ref y), .val (.ref y)] [(.ref sx)])) _
      refine XS.aloadN X15.here hx rfl (hb hby d_prog_27_method_4_code_27) rfl rfl ?_
      exact Steps.refl _)
    obtain ⟨T18, X18, e18, st18⟩ := getF X15 hx hZ hown (host := "") (Or.inl (hw _ (List.mem_of_getElem? (i := 50) rfl))) Via.refl e15 B0 (g := (mkF m 28 #[.val (.ref x), .val (.ref y), .val (.ref y)] [(.ref y), (.ref sx)])) rfl rfl (hb hby d_prog_27_method_4_code_28)
    have c19 : Steps p.tables e below S0 (T18.setTop (mkF m 31 #[.val (.ref x), .val (.ref y), .val (.ref y)] [(.ref sy), (.ref sx)])) := c17.trans (st18 _ (Steps.refl _))
    have heq20 : ∀ d ∈ StrChars.Road.wordsEq, d.before a0 Z = true := fun d hd => hw d (own_in_wordsEq d hd)
    obtain ⟨cq21, kq21, q21a, q21b, q21c⟩ := isOf hZ e18 Sx.1
    obtain ⟨_, _, ⟨T21, L21, kk21, nn21⟩, -, X21, ⟨Lc21, hQ21, l21, y21, z21⟩, st21⟩ := X18.virtualBack hx (y := (⟨"java/lang/String", "equals", "(Ljava/lang/Object;)Z"⟩ : MethodName)) (z := (⟨"java/lang/String", "equals", "(Ljava/lang/Object;)Z"⟩ : MethodName)) hown (mvT hZ (hw _ (List.mem_of_getElem? (i := 94) rfl))) (mvT hZ (hw _ (List.mem_of_getElem? (i := 95) rfl))) (notFace_of_selects (args := #[]) (mvT hZ (hw _ (List.mem_of_getElem? (i := 97) rfl)))) (mvT hZ (hw _ (List.mem_of_getElem? (i := 97) rfl))) (mvT hZ (hw _ (List.mem_of_getElem? (i := 96) rfl))) (by decide) (StrChars.Road.eqW (W := 0) hZ heq20 (kI := 4) (hw _ (List.mem_of_getElem? (i := 5) rfl)) Sx.1 Sx.2.1 Sx.2.2.1 Sx.2.2.2.1 Sx.cod (own_up _ Sx.2.2.2.2.1) Sx.2.2.2.2.2 Sy.1 Sy.2.1 Sy.2.2.1 Sy.2.2.2.1 Sy.cod (own_up _ Sy.2.2.2.2.1) Sy.2.2.2.2.2 (O2.ext X00.2) P5 (by decide) (by decide)) q21a q21c (g := (mkF m 31 #[.val (.ref x), .val (.ref y), .val (.ref y)] [(.ref sy), (.ref sx)])) rfl (by rw [hml]; rfl) (Steps.refl _) (argsL := [(.ref sy)]) (rest := []) (lenOf pd_oLjavaslangsObjectecZ rfl) rfl (by show 2 * 0 + _ ≤ _; exact Nat.le_of_eq rfl) (hb hby d_prog_27_method_4_code_31) (fun _ _ => ⟨rfl, e18, (by decide : 0 + 0 ≤ _), (by decide : 0 + 0 ≤ _)⟩)
    dsimp only [Pt.U, Pt.locs, Pt.cells, Pt.slots] at X21 l21 y21 z21 st21 hQ21
    subst l21 y21 z21
    obtain ⟨r21, rfl, hr21⟩ := own_tfv hQ21.1
    have eq21 := hQ21.2.2
    have c22 : Steps p.tables e below S0 (T21.setTop (mkF m 34 #[.val (.ref x), .val (.ref y), .val (.ref y)] [(.int r21)])) := c19.trans (st21)
    have N21 := Fr.app N0 (hQ21.2.1 ▸ Fr.nil n0)
    by_cases hq23 : r21 = (0 : Int32)
    · have c24 : Steps p.tables e below S0 (T21.setTop (mkF m 56 #[.val (.ref x), .val (.ref y), .val (.ref y)] [(.int (0 : Int32))])) := c22.trans (by
        show Steps p.tables e below (T21.setTop (mkF m 34 #[.val (.ref x), .val (.ref y), .val (.ref y)] [(.int r21)])) _
        refine XS.ifYes X21.here hx rfl (pc0 := 34) (pc' := 55) rfl (hb hby d_prog_27_method_4_code_34) rfl ((if0 _ _).trans (teq hq23).1) (by decide) (by decide) ?_
        refine XS.iconst X21.here hx rfl (hb hby d_prog_27_method_4_code_55) ?_
        exact Steps.refl _)
      obtain ⟨fs, hr, hrun, hended, hW, hsame⟩ := X21.leave (v := some (.int (0 : Int32))) (fun h => by rw [Bd.returns] at h; cases h)
      refine ⟨_, _, c24.trans (retOut X21 hx Bd.returns rfl (Or.inl ⟨rfl, by simp, _, rfl⟩) (hb hby d_prog_27_method_4_code_56) hr), hrun, hended, _, _, rfl, ?_, ⟨_, rfl⟩, hW, hsame.mono (by first | decide | exact Nat.le_of_ble_eq_true rfl) (by first | decide | exact Nat.le_of_ble_eq_true rfl)⟩
      show QEq Z (cs = cs2 ∧ ds = ds2) h0 n0 _ T21.heap _
      rw [eq21]
      exact ⟨_, rfl, Or.inr ⟨rfl, fun q => own_n hr21 hq23 q.1⟩, N21, rfl⟩
    · have c25 : Steps p.tables e below S0 (T21.setTop (mkF m 38 #[.val (.ref x), .val (.ref y), .val (.ref y)] [(.ref x)])) := c22.trans (by
        show Steps p.tables e below (T21.setTop (mkF m 34 #[.val (.ref x), .val (.ref y), .val (.ref y)] [(.int r21)])) _
        refine XS.ifNo X21.here hx rfl (hb hby d_prog_27_method_4_code_34) rfl ((if0 _ _).trans (feq hq23).1) ?_
        refine XS.aloadN X21.here hx rfl (hb hby d_prog_27_method_4_code_37) rfl rfl ?_
        exact Steps.refl _)
      obtain ⟨T26, X26, e26, st26⟩ := getF X21 hx hZ hown (host := "") (Or.inl (hw _ (List.mem_of_getElem? (i := 53) rfl))) Via.refl eq21 A1 (g := (mkF m 38 #[.val (.ref x), .val (.ref y), .val (.ref y)] [(.ref x)])) rfl rfl (hb hby d_prog_27_method_4_code_38)
      have c27 : Steps p.tables e below S0 (T26.setTop (mkF m 41 #[.val (.ref x), .val (.ref y), .val (.ref y)] [(.ref mx)])) := c25.trans (st26 _ (Steps.refl _))
      have c28 : Steps p.tables e below S0 (T26.setTop (mkF m 42 #[.val (.ref x), .val (.ref y), .val (.ref y)] [(.ref y), (.ref mx)])) := c27.trans (by
        show Steps p.tables e below (T26.setTop (mkF m 41 #[.val (.ref x), .val (.ref y), .val (.ref y)] [(.ref mx)])) _
        refine XS.aloadN X26.here hx rfl (hb hby d_prog_27_method_4_code_41) rfl rfl ?_
        exact Steps.refl _)
      obtain ⟨T29, X29, e29, st29⟩ := getF X26 hx hZ hown (host := "") (Or.inl (hw _ (List.mem_of_getElem? (i := 53) rfl))) Via.refl e26 B1 (g := (mkF m 42 #[.val (.ref x), .val (.ref y), .val (.ref y)] [(.ref y), (.ref mx)])) rfl rfl (hb hby d_prog_27_method_4_code_42)
      have c30 : Steps p.tables e below S0 (T29.setTop (mkF m 45 #[.val (.ref x), .val (.ref y), .val (.ref y)] [(.ref my), (.ref mx)])) := c28.trans (st29 _ (Steps.refl _))
      have heq31 : ∀ d ∈ StrChars.Road.wordsEq, d.before a0 Z = true := fun d hd => hw d (own_in_wordsEq d hd)
      obtain ⟨cq32, kq32, q32a, q32b, q32c⟩ := isOf hZ e29 Sm.1
      obtain ⟨_, _, ⟨T32, L32, kk32, nn32⟩, -, X32, ⟨Lc32, hQ32, l32, y32, z32⟩, st32⟩ := X29.virtualBack hx (y := (⟨"java/lang/String", "equals", "(Ljava/lang/Object;)Z"⟩ : MethodName)) (z := (⟨"java/lang/String", "equals", "(Ljava/lang/Object;)Z"⟩ : MethodName)) hown (mvT hZ (hw _ (List.mem_of_getElem? (i := 94) rfl))) (mvT hZ (hw _ (List.mem_of_getElem? (i := 95) rfl))) (notFace_of_selects (args := #[]) (mvT hZ (hw _ (List.mem_of_getElem? (i := 97) rfl)))) (mvT hZ (hw _ (List.mem_of_getElem? (i := 97) rfl))) (mvT hZ (hw _ (List.mem_of_getElem? (i := 96) rfl))) (by decide) (StrChars.Road.eqW (W := 0) hZ heq31 (kI := 4) (hw _ (List.mem_of_getElem? (i := 5) rfl)) Sm.1 Sm.2.1 Sm.2.2.1 Sm.2.2.2.1 Sm.cod (own_up _ Sm.2.2.2.2.1) Sm.2.2.2.2.2 Sn.1 Sn.2.1 Sn.2.2.1 Sn.2.2.2.1 Sn.cod (own_up _ Sn.2.2.2.2.1) Sn.2.2.2.2.2 (O2.ext X00.2) P5 (by decide) (by decide)) q32a q32c (g := (mkF m 45 #[.val (.ref x), .val (.ref y), .val (.ref y)] [(.ref my), (.ref mx)])) rfl (by rw [hml]; rfl) (Steps.refl _) (argsL := [(.ref my)]) (rest := []) (lenOf pd_oLjavaslangsObjectecZ rfl) rfl (by show 2 * 0 + _ ≤ _; exact Nat.le_of_eq rfl) (hb hby d_prog_27_method_4_code_45) (fun _ _ => ⟨rfl, e29, (by decide : 0 + 0 ≤ _), (by decide : 0 + 0 ≤ _)⟩)
      dsimp only [Pt.U, Pt.locs, Pt.cells, Pt.slots] at X32 l32 y32 z32 st32 hQ32
      subst l32 y32 z32
      obtain ⟨r32, rfl, hr32⟩ := own_tfv hQ32.1
      have eq32 := hQ32.2.2
      have c33 : Steps p.tables e below S0 (T32.setTop (mkF m 48 #[.val (.ref x), .val (.ref y), .val (.ref y)] [(.int r32)])) := c30.trans (st32)
      have N32 := Fr.app N21 (hQ32.2.1 ▸ Fr.nil n0)
      by_cases hq34 : r32 = (0 : Int32)
      · have c35 : Steps p.tables e below S0 (T32.setTop (mkF m 56 #[.val (.ref x), .val (.ref y), .val (.ref y)] [(.int (0 : Int32))])) := c33.trans (by
          show Steps p.tables e below (T32.setTop (mkF m 48 #[.val (.ref x), .val (.ref y), .val (.ref y)] [(.int r32)])) _
          refine XS.ifYes X32.here hx rfl (pc0 := 48) (pc' := 55) rfl (hb hby d_prog_27_method_4_code_48) rfl ((if0 _ _).trans (teq hq34).1) (by decide) (by decide) ?_
          refine XS.iconst X32.here hx rfl (hb hby d_prog_27_method_4_code_55) ?_
          exact Steps.refl _)
        obtain ⟨fs, hr, hrun, hended, hW, hsame⟩ := X32.leave (v := some (.int (0 : Int32))) (fun h => by rw [Bd.returns] at h; cases h)
        refine ⟨_, _, c35.trans (retOut X32 hx Bd.returns rfl (Or.inl ⟨rfl, by simp, _, rfl⟩) (hb hby d_prog_27_method_4_code_56) hr), hrun, hended, _, _, rfl, ?_, ⟨_, rfl⟩, hW, hsame.mono (by first | decide | exact Nat.le_of_ble_eq_true rfl) (by first | decide | exact Nat.le_of_ble_eq_true rfl)⟩
        show QEq Z (cs = cs2 ∧ ds = ds2) h0 n0 _ T32.heap _
        rw [eq32]
        exact ⟨_, rfl, Or.inr ⟨rfl, fun q => own_n hr32 hq34 q.2⟩, N32, rfl⟩
      · have c36 : Steps p.tables e below S0 (T32.setTop (mkF m 56 #[.val (.ref x), .val (.ref y), .val (.ref y)] [(.int (1 : Int32))])) := c33.trans (by
          show Steps p.tables e below (T32.setTop (mkF m 48 #[.val (.ref x), .val (.ref y), .val (.ref y)] [(.int r32)])) _
          refine XS.ifNo X32.here hx rfl (hb hby d_prog_27_method_4_code_48) rfl ((if0 _ _).trans (feq hq34).1) ?_
          refine XS.iconst X32.here hx rfl (hb hby d_prog_27_method_4_code_51) ?_
          refine XS.goto X32.here hx rfl (pc0 := 52) (pc' := 56) rfl (hb hby d_prog_27_method_4_code_52) (by decide) (by decide) ?_
          exact Steps.refl _)
        obtain ⟨fs, hr, hrun, hended, hW, hsame⟩ := X32.leave (v := some (.int (1 : Int32))) (fun h => by rw [Bd.returns] at h; cases h)
        refine ⟨_, _, c36.trans (retOut X32 hx Bd.returns rfl (Or.inl ⟨rfl, by simp, _, rfl⟩) (hb hby d_prog_27_method_4_code_56) hr), hrun, hended, _, _, rfl, ?_, ⟨_, rfl⟩, hW, hsame.mono (by first | decide | exact Nat.le_of_ble_eq_true rfl) (by first | decide | exact Nat.le_of_ble_eq_true rfl)⟩
        show QEq Z (cs = cs2 ∧ ds = ds2) h0 n0 _ T32.heap _
        rw [eq32]
        exact ⟨_, rfl, Or.inl ⟨rfl, own_y hr21 hq23, own_y hr32 hq34⟩, N32, rfl⟩
  · have c37 : Steps p.tables e below S0 (T11.setTop (mkF m 56 #[.val (.ref x), .val (.ref y), .val (.ref y)] [(.int (0 : Int32))])) := c12.trans (by
      show Steps p.tables e below (T11.setTop (mkF m 20 #[.val (.ref x), .val (.ref y), .val (.ref y)] [(.int (((31 : Int32) * (own_hash cs2)) + (own_hash ds2))), (.int (((31 : Int32) * (own_hash cs)) + (own_hash ds)))])) _
      refine XS.icmpYes X11.here hx rfl (pc0 := 20) (pc' := 55) rfl (hb hby d_prog_27_method_4_code_20) rfl (feq hq13).2 (by decide) (by decide) ?_
      refine XS.iconst X11.here hx rfl (hb hby d_prog_27_method_4_code_55) ?_
      exact Steps.refl _)
    obtain ⟨fs, hr, hrun, hended, hW, hsame⟩ := X11.leave (v := some (.int (0 : Int32))) (fun h => by rw [Bd.returns] at h; cases h)
    refine ⟨_, _, c37.trans (retOut X11 hx Bd.returns rfl (Or.inl ⟨rfl, by simp, _, rfl⟩) (hb hby d_prog_27_method_4_code_56) hr), hrun, hended, _, _, rfl, ?_, ⟨_, rfl⟩, hW, hsame.mono (by first | decide | exact Nat.le_of_ble_eq_true rfl) (by first | decide | exact Nat.le_of_ble_eq_true rfl)⟩
    show QEq Z (cs = cs2 ∧ ds = ds2) h0 n0 _ T11.heap _
    rw [e11]
    exact ⟨_, rfl, Or.inr ⟨rfl, fun q => hq13 (by rw [q.1, q.2])⟩, N0, rfl⟩

theorem d_method_3_code_0 : decode method_3_code 0 = .ok (.iload_n 0, 1) := by decide +kernel
theorem d_method_3_code_1 : decode method_3_code 1 = .ok (.iload_n 3, 1) := by decide +kernel
theorem d_method_3_code_2 : decode method_3_code 2 = .ok (.if_icmp .eq 5, 3) := by decide +kernel
theorem d_method_3_code_7 : decode method_3_code 7 = .ok (.iload_n 0, 1) := by decide +kernel
theorem d_method_3_code_8 : decode method_3_code 8 = .ok (.iconst 1, 1) := by decide +kernel
theorem d_method_3_code_9 : decode method_3_code 9 = .ok (.if_icmp .lt 11, 3) := by decide +kernel
theorem d_method_3_code_20 : decode method_3_code 20 = .ok (.iload_n 0, 1) := by decide +kernel
theorem d_method_3_code_21 : decode method_3_code 21 = .ok (.iconst 2, 1) := by decide +kernel
theorem d_method_3_code_22 : decode method_3_code 22 = .ok (.if_icmp .lt 11, 3) := by decide +kernel
theorem d_method_3_code_33 : decode method_3_code 33 = .ok (.iconst 1, 1) := by decide +kernel
theorem d_method_3_code_34 : decode method_3_code 34 = .ok (.ireturn, 1) := by decide +kernel
theorem d_method_3_code_25 : decode method_3_code 25 = .ok (.iload_n 2, 1) := by decide +kernel
theorem d_method_3_code_26 : decode method_3_code 26 = .ok (.iload 5, 2) := by decide +kernel
theorem d_method_3_code_28 : decode method_3_code 28 = .ok (.if_icmp .eq 5, 3) := by decide +kernel
theorem d_method_3_code_31 : decode method_3_code 31 = .ok (.iconst 0, 1) := by decide +kernel
theorem d_method_3_code_32 : decode method_3_code 32 = .ok (.ireturn, 1) := by decide +kernel
theorem d_method_3_code_12 : decode method_3_code 12 = .ok (.iload_n 1, 1) := by decide +kernel
theorem d_method_3_code_13 : decode method_3_code 13 = .ok (.iload 4, 2) := by decide +kernel
theorem d_method_3_code_15 : decode method_3_code 15 = .ok (.if_icmp .eq 5, 3) := by decide +kernel
theorem d_method_3_code_18 : decode method_3_code 18 = .ok (.iconst 0, 1) := by decide +kernel
theorem d_method_3_code_19 : decode method_3_code 19 = .ok (.ireturn, 1) := by decide +kernel
theorem d_method_3_code_5 : decode method_3_code 5 = .ok (.iconst 0, 1) := by decide +kernel
theorem d_method_3_code_6 : decode method_3_code 6 = .ok (.ireturn, 1) := by decide +kernel
theorem ef_rmSame (m : MethodId) (x0 : Int32) (x1 : Int32) (x2 : Int32) (x3 : Int32) (x4 : Int32) (x5 : Int32) : entryFrame m #[(.int x0), (.int x1), (.int x2), (.int x3), (.int x4), (.int x5)] 6 = mkF m 0 #[.val (.int x0), .val (.int x1), .val (.int x2), .val (.int x3), .val (.int x4), .val (.int x5)] [] := by first | (simp [entryFrame, mkF, argsToLocals, Value.category]; done) | rfl
set_option maxRecDepth 65536 in
set_option maxHeartbeats 40000000 in
theorem rmSame (l : Launch) (Z : State) (a0 : Array Value) (hw : ∀ d ∈ tables_1, d.before a0 Z = true) (ws : List Jvm.Cond) (la ca cb lb da db : Int32) (h0 : Heap) (n0 : Nat) (Z0 : n0 ≤ h0.size) (l1 : la = 0 ∨ la = 1 ∨ la = 2) (l2 : lb = 0 ∨ lb = 1 ∨ lb = 2) :
    MetFree l (⟨"com/example/evenkeel/evenkeel/RouteEqualsPinLaw", "same", "(IIIIII)Z"⟩ : MethodName) (head1 (Jvm.Cond.code (⟨"com/example/evenkeel/evenkeel/RouteEqualsPinLaw", "same", "(IIIIII)Z"⟩ : MethodName) method_3_code 6 (some .boolean) :: ws) ({ frames := 0, cells := 0, slots := 0, locals := 0 } : Room)) (fun aa U => aa = #[(.int la), (.int ca), (.int cb), (.int lb), (.int da), (.int db)] ∧ Z.Warmed39 U.vm ∧ U.heap = h0) (fun _ _ _ _ _ => True) (fun _ U o U' => ∃ v L, o = .returned v ∧ QEq Z (own_mk la ca cb = own_mk lb da db) h0 n0 v U'.heap L ∧ FrameEnd U o U' L ({ frames := 0, cells := 0, slots := 0, locals := 0 } : Room).cells ({ frames := 0, cells := 0, slots := 0, locals := 0 } : Room).slots) := by
  refine MetFree.of_bodySF (plainFor_of_name pn_com_example_evenkeel_evenkeel_RouteEqualsPinLaw) hisR ?_
  intro p e s m args below meth c s₁ Bd hml0 hP hK
  obtain ⟨rfl, hZ, hh⟩ := hP
  have hx := Bd.exec
  have hby := Bd.bytes
  have hml : c.maxLocals = 6 := hml0
  have hown : s.vm.findClass "com/example/evenkeel/evenkeel/RouteEqualsPinLaw" = some m.cls := findClass_of_methodNamed Bd.named
  have hnm := (name_of_methodNamed Bd.named Bd.method).1
  have X0 : Stand p l e ({ frames := 0, cells := 0, slots := 0, locals := 0 } : Room) s m #[(.int la), (.int ca), (.int cb), (.int lb), (.int da), (.int db)] below meth c s₁ [] 0 0 := Stand.of_body Bd
  have e0 : s₁.heap = h0 := by rw [← hh, Bd.state]; rfl
  have N0 := Fr.nil n0
  have K0 := Keep.refl h0 []
  obtain ⟨S0, hS0⟩ : ∃ z, z = s₁.setTop (entryFrame m #[(.int la), (.int ca), (.int cb), (.int lb), (.int da), (.int db)] 6) := ⟨_, rfl⟩
  rw [← hS0]
  have c0 : Steps p.tables e below S0 (s₁.setTop (mkF m 0 #[.val (.int la), .val (.int ca), .val (.int cb), .val (.int lb), .val (.int da), .val (.int db)] [])) := by
    rw [hS0]; exact castTop (ef_rmSame m la ca cb lb da db) (Steps.refl _)
  have c1 : Steps p.tables e below S0 (s₁.setTop (mkF m 2 #[.val (.int la), .val (.int ca), .val (.int cb), .val (.int lb), .val (.int da), .val (.int db)] [(.int lb), (.int la)])) := c0.trans (by
    show Steps p.tables e below (s₁.setTop (mkF m 0 #[.val (.int la), .val (.int ca), .val (.int cb), .val (.int lb), .val (.int da), .val (.int db)] [])) _
    refine XS.iloadN X0.here hx rfl (hb hby d_method_3_code_0) rfl ?_
    refine XS.iloadN X0.here hx rfl (hb hby d_method_3_code_1) rfl ?_
    exact Steps.refl _)
  by_cases hq2 : la = lb
  · have c3 : Steps p.tables e below S0 (s₁.setTop (mkF m 9 #[.val (.int la), .val (.int ca), .val (.int cb), .val (.int lb), .val (.int da), .val (.int db)] [(.int (1 : Int32)), (.int la)])) := c1.trans (by
      show Steps p.tables e below (s₁.setTop (mkF m 2 #[.val (.int la), .val (.int ca), .val (.int cb), .val (.int lb), .val (.int da), .val (.int db)] [(.int lb), (.int la)])) _
      refine XS.icmpYes X0.here hx rfl (pc0 := 2) (pc' := 7) rfl (hb hby d_method_3_code_2) rfl (teq hq2).1 (by decide) (by decide) ?_
      refine XS.iloadN X0.here hx rfl (hb hby d_method_3_code_7) rfl ?_
      refine XS.iconst X0.here hx rfl (hb hby d_method_3_code_8) ?_
      exact Steps.refl _)
    by_cases hq4 : la < (1 : Int32)
    · have c5 : Steps p.tables e below S0 (s₁.setTop (mkF m 22 #[.val (.int la), .val (.int ca), .val (.int cb), .val (.int lb), .val (.int da), .val (.int db)] [(.int (2 : Int32)), (.int la)])) := c3.trans (by
        show Steps p.tables e below (s₁.setTop (mkF m 9 #[.val (.int la), .val (.int ca), .val (.int cb), .val (.int lb), .val (.int da), .val (.int db)] [(.int (1 : Int32)), (.int la)])) _
        refine XS.icmpYes X0.here hx rfl (pc0 := 9) (pc' := 20) rfl (hb hby d_method_3_code_9) rfl (tlt hq4).1 (by decide) (by decide) ?_
        refine XS.iloadN X0.here hx rfl (hb hby d_method_3_code_20) rfl ?_
        refine XS.iconst X0.here hx rfl (hb hby d_method_3_code_21) ?_
        exact Steps.refl _)
      by_cases hq6 : la < (2 : Int32)
      · have c7 : Steps p.tables e below S0 (s₁.setTop (mkF m 34 #[.val (.int la), .val (.int ca), .val (.int cb), .val (.int lb), .val (.int da), .val (.int db)] [(.int (1 : Int32))])) := c5.trans (by
          show Steps p.tables e below (s₁.setTop (mkF m 22 #[.val (.int la), .val (.int ca), .val (.int cb), .val (.int lb), .val (.int da), .val (.int db)] [(.int (2 : Int32)), (.int la)])) _
          refine XS.icmpYes X0.here hx rfl (pc0 := 22) (pc' := 33) rfl (hb hby d_method_3_code_22) rfl (tlt hq6).1 (by decide) (by decide) ?_
          refine XS.iconst X0.here hx rfl (hb hby d_method_3_code_33) ?_
          exact Steps.refl _)
        obtain ⟨fs, hr, hrun, hended, hW, hsame⟩ := X0.leave (v := some (.int (1 : Int32))) (fun h => by rw [Bd.returns] at h; cases h)
        refine ⟨_, _, c7.trans (retOut X0 hx Bd.returns rfl (Or.inl ⟨rfl, by simp, _, rfl⟩) (hb hby d_method_3_code_34) hr), hrun, hended, _, _, rfl, ?_, ⟨_, rfl⟩, hW, hsame.mono (by first | decide | exact Nat.le_of_ble_eq_true rfl) (by first | decide | exact Nat.le_of_ble_eq_true rfl)⟩
        show QEq Z (own_mk la ca cb = own_mk lb da db) h0 n0 _ s₁.heap _
        rw [e0]
        refine ⟨_, rfl, ?_, N0, rfl⟩
        unfold TF own_mk
        have q01 : (0 : Int32) < 1 := by decide
        have q11 : ¬ (1 : Int32) < 1 := by decide
        have q12 : (1 : Int32) < 2 := by decide
        have q02 : (0 : Int32) < 2 := by decide
        have q21 : ¬ (2 : Int32) < 1 := by decide
        have q22 : ¬ (2 : Int32) < 2 := by decide
        rcases l1 with rfl | rfl | rfl <;> rcases l2 with rfl | rfl | rfl <;> simp_all
      · have c8 : Steps p.tables e below S0 (s₁.setTop (mkF m 28 #[.val (.int la), .val (.int ca), .val (.int cb), .val (.int lb), .val (.int da), .val (.int db)] [(.int db), (.int cb)])) := c5.trans (by
          show Steps p.tables e below (s₁.setTop (mkF m 22 #[.val (.int la), .val (.int ca), .val (.int cb), .val (.int lb), .val (.int da), .val (.int db)] [(.int (2 : Int32)), (.int la)])) _
          refine XS.icmpNo X0.here hx rfl (hb hby d_method_3_code_22) rfl (flt hq6).1 ?_
          refine XS.iloadN X0.here hx rfl (hb hby d_method_3_code_25) rfl ?_
          refine XS.iload X0.here hx rfl (hb hby d_method_3_code_26) rfl ?_
          exact Steps.refl _)
        by_cases hq9 : cb = db
        · have c10 : Steps p.tables e below S0 (s₁.setTop (mkF m 34 #[.val (.int la), .val (.int ca), .val (.int cb), .val (.int lb), .val (.int da), .val (.int db)] [(.int (1 : Int32))])) := c8.trans (by
            show Steps p.tables e below (s₁.setTop (mkF m 28 #[.val (.int la), .val (.int ca), .val (.int cb), .val (.int lb), .val (.int da), .val (.int db)] [(.int db), (.int cb)])) _
            refine XS.icmpYes X0.here hx rfl (pc0 := 28) (pc' := 33) rfl (hb hby d_method_3_code_28) rfl (teq hq9).1 (by decide) (by decide) ?_
            refine XS.iconst X0.here hx rfl (hb hby d_method_3_code_33) ?_
            exact Steps.refl _)
          obtain ⟨fs, hr, hrun, hended, hW, hsame⟩ := X0.leave (v := some (.int (1 : Int32))) (fun h => by rw [Bd.returns] at h; cases h)
          refine ⟨_, _, c10.trans (retOut X0 hx Bd.returns rfl (Or.inl ⟨rfl, by simp, _, rfl⟩) (hb hby d_method_3_code_34) hr), hrun, hended, _, _, rfl, ?_, ⟨_, rfl⟩, hW, hsame.mono (by first | decide | exact Nat.le_of_ble_eq_true rfl) (by first | decide | exact Nat.le_of_ble_eq_true rfl)⟩
          show QEq Z (own_mk la ca cb = own_mk lb da db) h0 n0 _ s₁.heap _
          rw [e0]
          refine ⟨_, rfl, ?_, N0, rfl⟩
          unfold TF own_mk
          have q01 : (0 : Int32) < 1 := by decide
          have q11 : ¬ (1 : Int32) < 1 := by decide
          have q12 : (1 : Int32) < 2 := by decide
          have q02 : (0 : Int32) < 2 := by decide
          have q21 : ¬ (2 : Int32) < 1 := by decide
          have q22 : ¬ (2 : Int32) < 2 := by decide
          rcases l1 with rfl | rfl | rfl <;> rcases l2 with rfl | rfl | rfl <;> simp_all
        · have c11 : Steps p.tables e below S0 (s₁.setTop (mkF m 32 #[.val (.int la), .val (.int ca), .val (.int cb), .val (.int lb), .val (.int da), .val (.int db)] [(.int (0 : Int32))])) := c8.trans (by
            show Steps p.tables e below (s₁.setTop (mkF m 28 #[.val (.int la), .val (.int ca), .val (.int cb), .val (.int lb), .val (.int da), .val (.int db)] [(.int db), (.int cb)])) _
            refine XS.icmpNo X0.here hx rfl (hb hby d_method_3_code_28) rfl (feq hq9).1 ?_
            refine XS.iconst X0.here hx rfl (hb hby d_method_3_code_31) ?_
            exact Steps.refl _)
          obtain ⟨fs, hr, hrun, hended, hW, hsame⟩ := X0.leave (v := some (.int (0 : Int32))) (fun h => by rw [Bd.returns] at h; cases h)
          refine ⟨_, _, c11.trans (retOut X0 hx Bd.returns rfl (Or.inl ⟨rfl, by simp, _, rfl⟩) (hb hby d_method_3_code_32) hr), hrun, hended, _, _, rfl, ?_, ⟨_, rfl⟩, hW, hsame.mono (by first | decide | exact Nat.le_of_ble_eq_true rfl) (by first | decide | exact Nat.le_of_ble_eq_true rfl)⟩
          show QEq Z (own_mk la ca cb = own_mk lb da db) h0 n0 _ s₁.heap _
          rw [e0]
          refine ⟨_, rfl, ?_, N0, rfl⟩
          unfold TF own_mk
          have q01 : (0 : Int32) < 1 := by decide
          have q11 : ¬ (1 : Int32) < 1 := by decide
          have q12 : (1 : Int32) < 2 := by decide
          have q02 : (0 : Int32) < 2 := by decide
          have q21 : ¬ (2 : Int32) < 1 := by decide
          have q22 : ¬ (2 : Int32) < 2 := by decide
          rcases l1 with rfl | rfl | rfl <;> rcases l2 with rfl | rfl | rfl <;> simp_all
    · have c12 : Steps p.tables e below S0 (s₁.setTop (mkF m 15 #[.val (.int la), .val (.int ca), .val (.int cb), .val (.int lb), .val (.int da), .val (.int db)] [(.int da), (.int ca)])) := c3.trans (by
        show Steps p.tables e below (s₁.setTop (mkF m 9 #[.val (.int la), .val (.int ca), .val (.int cb), .val (.int lb), .val (.int da), .val (.int db)] [(.int (1 : Int32)), (.int la)])) _
        refine XS.icmpNo X0.here hx rfl (hb hby d_method_3_code_9) rfl (flt hq4).1 ?_
        refine XS.iloadN X0.here hx rfl (hb hby d_method_3_code_12) rfl ?_
        refine XS.iload X0.here hx rfl (hb hby d_method_3_code_13) rfl ?_
        exact Steps.refl _)
      by_cases hq13 : ca = da
      · have c14 : Steps p.tables e below S0 (s₁.setTop (mkF m 22 #[.val (.int la), .val (.int ca), .val (.int cb), .val (.int lb), .val (.int da), .val (.int db)] [(.int (2 : Int32)), (.int la)])) := c12.trans (by
          show Steps p.tables e below (s₁.setTop (mkF m 15 #[.val (.int la), .val (.int ca), .val (.int cb), .val (.int lb), .val (.int da), .val (.int db)] [(.int da), (.int ca)])) _
          refine XS.icmpYes X0.here hx rfl (pc0 := 15) (pc' := 20) rfl (hb hby d_method_3_code_15) rfl (teq hq13).1 (by decide) (by decide) ?_
          refine XS.iloadN X0.here hx rfl (hb hby d_method_3_code_20) rfl ?_
          refine XS.iconst X0.here hx rfl (hb hby d_method_3_code_21) ?_
          exact Steps.refl _)
        by_cases hq15 : la < (2 : Int32)
        · have c16 : Steps p.tables e below S0 (s₁.setTop (mkF m 34 #[.val (.int la), .val (.int ca), .val (.int cb), .val (.int lb), .val (.int da), .val (.int db)] [(.int (1 : Int32))])) := c14.trans (by
            show Steps p.tables e below (s₁.setTop (mkF m 22 #[.val (.int la), .val (.int ca), .val (.int cb), .val (.int lb), .val (.int da), .val (.int db)] [(.int (2 : Int32)), (.int la)])) _
            refine XS.icmpYes X0.here hx rfl (pc0 := 22) (pc' := 33) rfl (hb hby d_method_3_code_22) rfl (tlt hq15).1 (by decide) (by decide) ?_
            refine XS.iconst X0.here hx rfl (hb hby d_method_3_code_33) ?_
            exact Steps.refl _)
          obtain ⟨fs, hr, hrun, hended, hW, hsame⟩ := X0.leave (v := some (.int (1 : Int32))) (fun h => by rw [Bd.returns] at h; cases h)
          refine ⟨_, _, c16.trans (retOut X0 hx Bd.returns rfl (Or.inl ⟨rfl, by simp, _, rfl⟩) (hb hby d_method_3_code_34) hr), hrun, hended, _, _, rfl, ?_, ⟨_, rfl⟩, hW, hsame.mono (by first | decide | exact Nat.le_of_ble_eq_true rfl) (by first | decide | exact Nat.le_of_ble_eq_true rfl)⟩
          show QEq Z (own_mk la ca cb = own_mk lb da db) h0 n0 _ s₁.heap _
          rw [e0]
          refine ⟨_, rfl, ?_, N0, rfl⟩
          unfold TF own_mk
          have q01 : (0 : Int32) < 1 := by decide
          have q11 : ¬ (1 : Int32) < 1 := by decide
          have q12 : (1 : Int32) < 2 := by decide
          have q02 : (0 : Int32) < 2 := by decide
          have q21 : ¬ (2 : Int32) < 1 := by decide
          have q22 : ¬ (2 : Int32) < 2 := by decide
          rcases l1 with rfl | rfl | rfl <;> rcases l2 with rfl | rfl | rfl <;> simp_all
        · have c17 : Steps p.tables e below S0 (s₁.setTop (mkF m 28 #[.val (.int la), .val (.int ca), .val (.int cb), .val (.int lb), .val (.int da), .val (.int db)] [(.int db), (.int cb)])) := c14.trans (by
            show Steps p.tables e below (s₁.setTop (mkF m 22 #[.val (.int la), .val (.int ca), .val (.int cb), .val (.int lb), .val (.int da), .val (.int db)] [(.int (2 : Int32)), (.int la)])) _
            refine XS.icmpNo X0.here hx rfl (hb hby d_method_3_code_22) rfl (flt hq15).1 ?_
            refine XS.iloadN X0.here hx rfl (hb hby d_method_3_code_25) rfl ?_
            refine XS.iload X0.here hx rfl (hb hby d_method_3_code_26) rfl ?_
            exact Steps.refl _)
          by_cases hq18 : cb = db
          · have c19 : Steps p.tables e below S0 (s₁.setTop (mkF m 34 #[.val (.int la), .val (.int ca), .val (.int cb), .val (.int lb), .val (.int da), .val (.int db)] [(.int (1 : Int32))])) := c17.trans (by
              show Steps p.tables e below (s₁.setTop (mkF m 28 #[.val (.int la), .val (.int ca), .val (.int cb), .val (.int lb), .val (.int da), .val (.int db)] [(.int db), (.int cb)])) _
              refine XS.icmpYes X0.here hx rfl (pc0 := 28) (pc' := 33) rfl (hb hby d_method_3_code_28) rfl (teq hq18).1 (by decide) (by decide) ?_
              refine XS.iconst X0.here hx rfl (hb hby d_method_3_code_33) ?_
              exact Steps.refl _)
            obtain ⟨fs, hr, hrun, hended, hW, hsame⟩ := X0.leave (v := some (.int (1 : Int32))) (fun h => by rw [Bd.returns] at h; cases h)
            refine ⟨_, _, c19.trans (retOut X0 hx Bd.returns rfl (Or.inl ⟨rfl, by simp, _, rfl⟩) (hb hby d_method_3_code_34) hr), hrun, hended, _, _, rfl, ?_, ⟨_, rfl⟩, hW, hsame.mono (by first | decide | exact Nat.le_of_ble_eq_true rfl) (by first | decide | exact Nat.le_of_ble_eq_true rfl)⟩
            show QEq Z (own_mk la ca cb = own_mk lb da db) h0 n0 _ s₁.heap _
            rw [e0]
            refine ⟨_, rfl, ?_, N0, rfl⟩
            unfold TF own_mk
            have q01 : (0 : Int32) < 1 := by decide
            have q11 : ¬ (1 : Int32) < 1 := by decide
            have q12 : (1 : Int32) < 2 := by decide
            have q02 : (0 : Int32) < 2 := by decide
            have q21 : ¬ (2 : Int32) < 1 := by decide
            have q22 : ¬ (2 : Int32) < 2 := by decide
            rcases l1 with rfl | rfl | rfl <;> rcases l2 with rfl | rfl | rfl <;> simp_all
          · have c20 : Steps p.tables e below S0 (s₁.setTop (mkF m 32 #[.val (.int la), .val (.int ca), .val (.int cb), .val (.int lb), .val (.int da), .val (.int db)] [(.int (0 : Int32))])) := c17.trans (by
              show Steps p.tables e below (s₁.setTop (mkF m 28 #[.val (.int la), .val (.int ca), .val (.int cb), .val (.int lb), .val (.int da), .val (.int db)] [(.int db), (.int cb)])) _
              refine XS.icmpNo X0.here hx rfl (hb hby d_method_3_code_28) rfl (feq hq18).1 ?_
              refine XS.iconst X0.here hx rfl (hb hby d_method_3_code_31) ?_
              exact Steps.refl _)
            obtain ⟨fs, hr, hrun, hended, hW, hsame⟩ := X0.leave (v := some (.int (0 : Int32))) (fun h => by rw [Bd.returns] at h; cases h)
            refine ⟨_, _, c20.trans (retOut X0 hx Bd.returns rfl (Or.inl ⟨rfl, by simp, _, rfl⟩) (hb hby d_method_3_code_32) hr), hrun, hended, _, _, rfl, ?_, ⟨_, rfl⟩, hW, hsame.mono (by first | decide | exact Nat.le_of_ble_eq_true rfl) (by first | decide | exact Nat.le_of_ble_eq_true rfl)⟩
            show QEq Z (own_mk la ca cb = own_mk lb da db) h0 n0 _ s₁.heap _
            rw [e0]
            refine ⟨_, rfl, ?_, N0, rfl⟩
            unfold TF own_mk
            have q01 : (0 : Int32) < 1 := by decide
            have q11 : ¬ (1 : Int32) < 1 := by decide
            have q12 : (1 : Int32) < 2 := by decide
            have q02 : (0 : Int32) < 2 := by decide
            have q21 : ¬ (2 : Int32) < 1 := by decide
            have q22 : ¬ (2 : Int32) < 2 := by decide
            rcases l1 with rfl | rfl | rfl <;> rcases l2 with rfl | rfl | rfl <;> simp_all
      · have c21 : Steps p.tables e below S0 (s₁.setTop (mkF m 19 #[.val (.int la), .val (.int ca), .val (.int cb), .val (.int lb), .val (.int da), .val (.int db)] [(.int (0 : Int32))])) := c12.trans (by
          show Steps p.tables e below (s₁.setTop (mkF m 15 #[.val (.int la), .val (.int ca), .val (.int cb), .val (.int lb), .val (.int da), .val (.int db)] [(.int da), (.int ca)])) _
          refine XS.icmpNo X0.here hx rfl (hb hby d_method_3_code_15) rfl (feq hq13).1 ?_
          refine XS.iconst X0.here hx rfl (hb hby d_method_3_code_18) ?_
          exact Steps.refl _)
        obtain ⟨fs, hr, hrun, hended, hW, hsame⟩ := X0.leave (v := some (.int (0 : Int32))) (fun h => by rw [Bd.returns] at h; cases h)
        refine ⟨_, _, c21.trans (retOut X0 hx Bd.returns rfl (Or.inl ⟨rfl, by simp, _, rfl⟩) (hb hby d_method_3_code_19) hr), hrun, hended, _, _, rfl, ?_, ⟨_, rfl⟩, hW, hsame.mono (by first | decide | exact Nat.le_of_ble_eq_true rfl) (by first | decide | exact Nat.le_of_ble_eq_true rfl)⟩
        show QEq Z (own_mk la ca cb = own_mk lb da db) h0 n0 _ s₁.heap _
        rw [e0]
        refine ⟨_, rfl, ?_, N0, rfl⟩
        unfold TF own_mk
        have q01 : (0 : Int32) < 1 := by decide
        have q11 : ¬ (1 : Int32) < 1 := by decide
        have q12 : (1 : Int32) < 2 := by decide
        have q02 : (0 : Int32) < 2 := by decide
        have q21 : ¬ (2 : Int32) < 1 := by decide
        have q22 : ¬ (2 : Int32) < 2 := by decide
        rcases l1 with rfl | rfl | rfl <;> rcases l2 with rfl | rfl | rfl <;> simp_all
  · have c22 : Steps p.tables e below S0 (s₁.setTop (mkF m 6 #[.val (.int la), .val (.int ca), .val (.int cb), .val (.int lb), .val (.int da), .val (.int db)] [(.int (0 : Int32))])) := c1.trans (by
      show Steps p.tables e below (s₁.setTop (mkF m 2 #[.val (.int la), .val (.int ca), .val (.int cb), .val (.int lb), .val (.int da), .val (.int db)] [(.int lb), (.int la)])) _
      refine XS.icmpNo X0.here hx rfl (hb hby d_method_3_code_2) rfl (feq hq2).1 ?_
      refine XS.iconst X0.here hx rfl (hb hby d_method_3_code_5) ?_
      exact Steps.refl _)
    obtain ⟨fs, hr, hrun, hended, hW, hsame⟩ := X0.leave (v := some (.int (0 : Int32))) (fun h => by rw [Bd.returns] at h; cases h)
    refine ⟨_, _, c22.trans (retOut X0 hx Bd.returns rfl (Or.inl ⟨rfl, by simp, _, rfl⟩) (hb hby d_method_3_code_6) hr), hrun, hended, _, _, rfl, ?_, ⟨_, rfl⟩, hW, hsame.mono (by first | decide | exact Nat.le_of_ble_eq_true rfl) (by first | decide | exact Nat.le_of_ble_eq_true rfl)⟩
    show QEq Z (own_mk la ca cb = own_mk lb da db) h0 n0 _ s₁.heap _
    rw [e0]
    refine ⟨_, rfl, ?_, N0, rfl⟩
    unfold TF own_mk
    have q01 : (0 : Int32) < 1 := by decide
    have q11 : ¬ (1 : Int32) < 1 := by decide
    have q12 : (1 : Int32) < 2 := by decide
    have q02 : (0 : Int32) < 2 := by decide
    have q21 : ¬ (2 : Int32) < 1 := by decide
    have q22 : ¬ (2 : Int32) < 2 := by decide
    rcases l1 with rfl | rfl | rfl <;> rcases l2 with rfl | rfl | rfl <;> simp_all

theorem own_tfsw {r : Int32} {A B C D : List Int32} (h : TF r (A = B ∧ C = D)) : TF r (B = A ∧ D = C) := own_tfiff h ⟨fun q => ⟨q.1.symm, q.2.symm⟩, fun q => ⟨q.1.symm, q.2.symm⟩⟩

def Q0 (Z : State) (h0 : Heap) (n0 : Nat) (v : Option Value) (h : Heap) (L : List Loc) : Prop := v = some (.int 1) ∧ Fr n0 L

theorem pd_oIIIcLjavaslangsStringe : parseMethodDescriptor "(III)Ljava/lang/String;" = some ⟨[.int, .int, .int], some (.object "java/lang/String")⟩ := by decide +kernel
theorem pd_oLjavaslangsStringeLjavaslangsStringecV : parseMethodDescriptor "(Ljava/lang/String;Ljava/lang/String;)V" = some ⟨[(.object "java/lang/String"), (.object "java/lang/String")], none⟩ := by decide +kernel
theorem pd_oIIIIIIcZ : parseMethodDescriptor "(IIIIII)Z" = some ⟨[.int, .int, .int, .int, .int, .int], some .boolean⟩ := by decide +kernel
theorem ef_rm0 (m : MethodId) (x0 : Int32) (x1 : Int32) (x2 : Int32) (x3 : Int32) (x4 : Int32) : entryFrame m #[(.int x0), (.int x1), (.int x2), (.int x3), (.int x4)] maxLocals = mkF m 0 #[.val (.int x0), .val (.int x1), .val (.int x2), .val (.int x3), .val (.int x4), .unset, .unset, .unset, .unset, .unset, .unset, .unset, .unset, .unset, .unset, .unset, .unset, .unset, .unset, .unset, .unset, .unset, .unset, .unset, .unset] [] := by first | (simp [entryFrame, mkF, argsToLocals, Value.category, maxLocals]; done) | rfl
set_option maxRecDepth 65536 in
set_option maxHeartbeats 40000000 in
theorem rm0 (l : Launch) (Z : State) (a0 : Array Value) (hw : ∀ d ∈ tables_1, d.before a0 Z = true) (ws : List Jvm.Cond) (p0 p1 p2 p3 p4 : Int32) (G1 : Int32) (h0 : Heap) (n0 : Nat) (Z0 : n0 ≤ h0.size) (O2 : Sta Z Z.heap "java/lang/String" "COMPACT_STRINGS" "Z" (.int G1)) (P5 : ¬ G1 = 0) (X00 : Old Z n0 h0) :
    MetFree l x (head1 (Jvm.Cond.code x code maxLocals ret :: ws) room_1) (fun aa U => aa = #[(.int p0), (.int p1), (.int p2), (.int p3), (.int p4)] ∧ Z.Warmed39 U.vm ∧ U.heap = h0 ∧ CHv Z EL U.vm h0) (fun _ _ _ _ _ => True) (fun _ U o U' => ∃ v L, o = .returned v ∧ Q0 Z  h0 n0 v U'.heap L ∧ CHr Z EL0 U.vm U.heap U'.vm U'.heap ∧ ReturnedEndW U o U' L room_1.cells room_1.slots) := by
  refine MetFree.of_bodySF (plainFor_of_name pn_com_example_evenkeel_evenkeel_RouteEqualsPinLaw) hisR ?_
  intro p e s m args below meth c s₁ Bd hml0 hP hK
  obtain ⟨rfl, hZ, hh, hCH⟩ := hP
  have hx := Bd.exec
  have hby := Bd.bytes
  have hml : c.maxLocals = 25 := hml0
  have hown : s.vm.findClass "com/example/evenkeel/evenkeel/RouteEqualsPinLaw" = some m.cls := findClass_of_methodNamed Bd.named
  have hnm := (name_of_methodNamed Bd.named Bd.method).1
  have X0 : Stand p l e room_1 s m #[(.int p0), (.int p1), (.int p2), (.int p3), (.int p4)] below meth c s₁ [] 0 0 := Stand.of_body Bd
  have e0 : s₁.heap = h0 := by rw [← hh, Bd.state]; rfl
  have N0 := Fr.nil n0
  have K0 := Keep.refl h0 []
  obtain ⟨S0, hS0⟩ : ∃ z, z = s₁.setTop (entryFrame m #[(.int p0), (.int p1), (.int p2), (.int p3), (.int p4)] maxLocals) := ⟨_, rfl⟩
  rw [← hS0]
  have c0 : Steps p.tables e below S0 (s₁.setTop (mkF m 0 #[.val (.int p0), .val (.int p1), .val (.int p2), .val (.int p3), .val (.int p4), .unset, .unset, .unset, .unset, .unset, .unset, .unset, .unset, .unset, .unset, .unset, .unset, .unset, .unset, .unset, .unset, .unset, .unset, .unset, .unset] [])) := by
    rw [hS0]; exact castTop (ef_rm0 m p0 p1 p2 p3 p4) (Steps.refl _)
  have X0 : Stand p l e room_1 (s.setVm s.vm) m #[(.int p0), (.int p1), (.int p2), (.int p3), (.int p4)] below meth c s₁ [] 0 0 := X0
  have hS0 : s.Since s.vm 0 := own_since s
  have R0 : CHr Z EL s.vm h0 s.vm h0 := CHr.refl hCH
  have hEL := own_EW hw
  have hwS := own_strw hw
  have c1 : Steps p.tables e below S0 (s₁.setTop (mkF m 7 #[.val (.int p0), .val (.int p1), .val (.int p2), .val (.int p3), .val (.int p4), .val (.int ((p0 &&& (3 : Int32)) % (3 : Int32))), .unset, .unset, .unset, .unset, .unset, .unset, .unset, .unset, .unset, .unset, .unset, .unset, .unset, .unset, .unset, .unset, .unset, .unset, .unset] [])) := c0.trans (by
    show Steps p.tables e below (s₁.setTop (mkF m 0 #[.val (.int p0), .val (.int p1), .val (.int p2), .val (.int p3), .val (.int p4), .unset, .unset, .unset, .unset, .unset, .unset, .unset, .unset, .unset, .unset, .unset, .unset, .unset, .unset, .unset, .unset, .unset, .unset, .unset, .unset] [])) _
    refine XS.iloadN X0.here hx rfl (hb hby at_0) rfl ?_
    refine XS.iconst X0.here hx rfl (hb hby at_1) ?_
    refine XS.iand X0.here hx rfl (hb hby at_2) rfl ?_
    refine XS.iconst X0.here hx rfl (hb hby at_3) ?_
    show Steps p.tables e below (s₁.setTop (mkF m 4 #[.val (.int p0), .val (.int p1), .val (.int p2), .val (.int p3), .val (.int p4), .unset, .unset, .unset, .unset, .unset, .unset, .unset, .unset, .unset, .unset, .unset, .unset, .unset, .unset, .unset, .unset, .unset, .unset, .unset, .unset] [(.int (3 : Int32)), (.int (p0 &&& (3 : Int32)))])) _
    refine iremM (g := (mkF m 4 #[.val (.int p0), .val (.int p1), .val (.int p2), .val (.int p3), .val (.int p4), .unset, .unset, .unset, .unset, .unset, .unset, .unset, .unset, .unset, .unset, .unset, .unset, .unset, .unset, .unset, .unset, .unset, .unset, .unset, .unset] [(.int (3 : Int32)), (.int (p0 &&& (3 : Int32)))])) X0 hx rfl (hb hby at_4) rfl (by decide) ?_
    refine XS.istore X0.here hx rfl (hb hby at_5) rfl (l' := #[.val (.int p0), .val (.int p1), .val (.int p2), .val (.int p3), .val (.int p4), .val (.int ((p0 &&& (3 : Int32)) % (3 : Int32))), .unset, .unset, .unset, .unset, .unset, .unset, .unset, .unset, .unset, .unset, .unset, .unset, .unset, .unset, .unset, .unset, .unset, .unset, .unset]) rfl ?_
    exact Steps.refl _)
  obtain ⟨la, hla, c2⟩ : ∃ z : Int32, z = ((p0 &&& (3 : Int32)) % (3 : Int32)) ∧ Steps p.tables e below S0 (s₁.setTop (mkF m 7 #[.val (.int p0), .val (.int p1), .val (.int p2), .val (.int p3), .val (.int p4), .val (.int z), .unset, .unset, .unset, .unset, .unset, .unset, .unset, .unset, .unset, .unset, .unset, .unset, .unset, .unset, .unset, .unset, .unset, .unset, .unset] [])) := ⟨_, rfl, c1⟩
  have l3la : la = 0 ∨ la = 1 ∨ la = 2 := hla ▸ own_m3 _
  have c3 : Steps p.tables e below S0 (s₁.setTop (mkF m 16 #[.val (.int p0), .val (.int p1), .val (.int p2), .val (.int p3), .val (.int p4), .val (.int la), .val (.int (((p0.toUInt32 >>> ((2 : Int32) &&& 31).toUInt32).toInt32) &&& (255 : Int32))), .unset, .unset, .unset, .unset, .unset, .unset, .unset, .unset, .unset, .unset, .unset, .unset, .unset, .unset, .unset, .unset, .unset, .unset] [])) := c2.trans (by
    show Steps p.tables e below (s₁.setTop (mkF m 7 #[.val (.int p0), .val (.int p1), .val (.int p2), .val (.int p3), .val (.int p4), .val (.int la), .unset, .unset, .unset, .unset, .unset, .unset, .unset, .unset, .unset, .unset, .unset, .unset, .unset, .unset, .unset, .unset, .unset, .unset, .unset] [])) _
    refine XS.iloadN X0.here hx rfl (hb hby at_7) rfl ?_
    refine XS.iconst X0.here hx rfl (hb hby at_8) ?_
    refine XS.iushr X0.here hx rfl (hb hby at_9) rfl ?_
    refine XS.sipush X0.here hx rfl (hb hby at_10) ?_
    show Steps p.tables e below (s₁.setTop (mkF m 13 #[.val (.int p0), .val (.int p1), .val (.int p2), .val (.int p3), .val (.int p4), .val (.int la), .unset, .unset, .unset, .unset, .unset, .unset, .unset, .unset, .unset, .unset, .unset, .unset, .unset, .unset, .unset, .unset, .unset, .unset, .unset] [(.int (255 : Int32)), (.int ((p0.toUInt32 >>> ((2 : Int32) &&& 31).toUInt32).toInt32))])) _
    refine XS.iand X0.here hx rfl (hb hby at_13) rfl ?_
    refine XS.istore X0.here hx rfl (hb hby at_14) rfl (l' := #[.val (.int p0), .val (.int p1), .val (.int p2), .val (.int p3), .val (.int p4), .val (.int la), .val (.int (((p0.toUInt32 >>> ((2 : Int32) &&& 31).toUInt32).toInt32) &&& (255 : Int32))), .unset, .unset, .unset, .unset, .unset, .unset, .unset, .unset, .unset, .unset, .unset, .unset, .unset, .unset, .unset, .unset, .unset, .unset]) rfl ?_
    exact Steps.refl _)
  obtain ⟨ca, hca, c4⟩ : ∃ z : Int32, z = (((p0.toUInt32 >>> ((2 : Int32) &&& 31).toUInt32).toInt32) &&& (255 : Int32)) ∧ Steps p.tables e below S0 (s₁.setTop (mkF m 16 #[.val (.int p0), .val (.int p1), .val (.int p2), .val (.int p3), .val (.int p4), .val (.int la), .val (.int z), .unset, .unset, .unset, .unset, .unset, .unset, .unset, .unset, .unset, .unset, .unset, .unset, .unset, .unset, .unset, .unset, .unset, .unset] [])) := ⟨_, rfl, c3⟩
  have h8ca : C8 ca := hca ▸ (own_and255 _ : C8 _)
  have c5 : Steps p.tables e below S0 (s₁.setTop (mkF m 26 #[.val (.int p0), .val (.int p1), .val (.int p2), .val (.int p3), .val (.int p4), .val (.int la), .val (.int ca), .val (.int (((p0.toUInt32 >>> ((10 : Int32) &&& 31).toUInt32).toInt32) &&& (255 : Int32))), .unset, .unset, .unset, .unset, .unset, .unset, .unset, .unset, .unset, .unset, .unset, .unset, .unset, .unset, .unset, .unset, .unset] [])) := c4.trans (by
    show Steps p.tables e below (s₁.setTop (mkF m 16 #[.val (.int p0), .val (.int p1), .val (.int p2), .val (.int p3), .val (.int p4), .val (.int la), .val (.int ca), .unset, .unset, .unset, .unset, .unset, .unset, .unset, .unset, .unset, .unset, .unset, .unset, .unset, .unset, .unset, .unset, .unset, .unset] [])) _
    refine XS.iloadN X0.here hx rfl (hb hby at_16) rfl ?_
    refine XS.bipush X0.here hx rfl (hb hby at_17) ?_
    refine XS.iushr X0.here hx rfl (hb hby at_19) rfl ?_
    refine XS.sipush X0.here hx rfl (hb hby at_20) ?_
    show Steps p.tables e below (s₁.setTop (mkF m 23 #[.val (.int p0), .val (.int p1), .val (.int p2), .val (.int p3), .val (.int p4), .val (.int la), .val (.int ca), .unset, .unset, .unset, .unset, .unset, .unset, .unset, .unset, .unset, .unset, .unset, .unset, .unset, .unset, .unset, .unset, .unset, .unset] [(.int (255 : Int32)), (.int ((p0.toUInt32 >>> ((10 : Int32) &&& 31).toUInt32).toInt32))])) _
    refine XS.iand X0.here hx rfl (hb hby at_23) rfl ?_
    refine XS.istore X0.here hx rfl (hb hby at_24) rfl (l' := #[.val (.int p0), .val (.int p1), .val (.int p2), .val (.int p3), .val (.int p4), .val (.int la), .val (.int ca), .val (.int (((p0.toUInt32 >>> ((10 : Int32) &&& 31).toUInt32).toInt32) &&& (255 : Int32))), .unset, .unset, .unset, .unset, .unset, .unset, .unset, .unset, .unset, .unset, .unset, .unset, .unset, .unset, .unset, .unset, .unset]) rfl ?_
    exact Steps.refl _)
  obtain ⟨cb, hcb, c6⟩ : ∃ z : Int32, z = (((p0.toUInt32 >>> ((10 : Int32) &&& 31).toUInt32).toInt32) &&& (255 : Int32)) ∧ Steps p.tables e below S0 (s₁.setTop (mkF m 26 #[.val (.int p0), .val (.int p1), .val (.int p2), .val (.int p3), .val (.int p4), .val (.int la), .val (.int ca), .val (.int z), .unset, .unset, .unset, .unset, .unset, .unset, .unset, .unset, .unset, .unset, .unset, .unset, .unset, .unset, .unset, .unset, .unset] [])) := ⟨_, rfl, c5⟩
  have h8cb : C8 cb := hcb ▸ (own_and255 _ : C8 _)
  have c7 : Steps p.tables e below S0 (s₁.setTop (mkF m 33 #[.val (.int p0), .val (.int p1), .val (.int p2), .val (.int p3), .val (.int p4), .val (.int la), .val (.int ca), .val (.int cb), .val (.int ((p1 &&& (3 : Int32)) % (3 : Int32))), .unset, .unset, .unset, .unset, .unset, .unset, .unset, .unset, .unset, .unset, .unset, .unset, .unset, .unset, .unset, .unset] [])) := c6.trans (by
    show Steps p.tables e below (s₁.setTop (mkF m 26 #[.val (.int p0), .val (.int p1), .val (.int p2), .val (.int p3), .val (.int p4), .val (.int la), .val (.int ca), .val (.int cb), .unset, .unset, .unset, .unset, .unset, .unset, .unset, .unset, .unset, .unset, .unset, .unset, .unset, .unset, .unset, .unset, .unset] [])) _
    refine XS.iloadN X0.here hx rfl (hb hby at_26) rfl ?_
    refine XS.iconst X0.here hx rfl (hb hby at_27) ?_
    refine XS.iand X0.here hx rfl (hb hby at_28) rfl ?_
    refine XS.iconst X0.here hx rfl (hb hby at_29) ?_
    show Steps p.tables e below (s₁.setTop (mkF m 30 #[.val (.int p0), .val (.int p1), .val (.int p2), .val (.int p3), .val (.int p4), .val (.int la), .val (.int ca), .val (.int cb), .unset, .unset, .unset, .unset, .unset, .unset, .unset, .unset, .unset, .unset, .unset, .unset, .unset, .unset, .unset, .unset, .unset] [(.int (3 : Int32)), (.int (p1 &&& (3 : Int32)))])) _
    refine iremM (g := (mkF m 30 #[.val (.int p0), .val (.int p1), .val (.int p2), .val (.int p3), .val (.int p4), .val (.int la), .val (.int ca), .val (.int cb), .unset, .unset, .unset, .unset, .unset, .unset, .unset, .unset, .unset, .unset, .unset, .unset, .unset, .unset, .unset, .unset, .unset] [(.int (3 : Int32)), (.int (p1 &&& (3 : Int32)))])) X0 hx rfl (hb hby at_30) rfl (by decide) ?_
    refine XS.istore X0.here hx rfl (hb hby at_31) rfl (l' := #[.val (.int p0), .val (.int p1), .val (.int p2), .val (.int p3), .val (.int p4), .val (.int la), .val (.int ca), .val (.int cb), .val (.int ((p1 &&& (3 : Int32)) % (3 : Int32))), .unset, .unset, .unset, .unset, .unset, .unset, .unset, .unset, .unset, .unset, .unset, .unset, .unset, .unset, .unset, .unset]) rfl ?_
    exact Steps.refl _)
  obtain ⟨ma, hma, c8⟩ : ∃ z : Int32, z = ((p1 &&& (3 : Int32)) % (3 : Int32)) ∧ Steps p.tables e below S0 (s₁.setTop (mkF m 33 #[.val (.int p0), .val (.int p1), .val (.int p2), .val (.int p3), .val (.int p4), .val (.int la), .val (.int ca), .val (.int cb), .val (.int z), .unset, .unset, .unset, .unset, .unset, .unset, .unset, .unset, .unset, .unset, .unset, .unset, .unset, .unset, .unset, .unset] [])) := ⟨_, rfl, c7⟩
  have l3ma : ma = 0 ∨ ma = 1 ∨ ma = 2 := hma ▸ own_m3 _
  have c9 : Steps p.tables e below S0 (s₁.setTop (mkF m 42 #[.val (.int p0), .val (.int p1), .val (.int p2), .val (.int p3), .val (.int p4), .val (.int la), .val (.int ca), .val (.int cb), .val (.int ma), .val (.int (((p1.toUInt32 >>> ((2 : Int32) &&& 31).toUInt32).toInt32) &&& (255 : Int32))), .unset, .unset, .unset, .unset, .unset, .unset, .unset, .unset, .unset, .unset, .unset, .unset, .unset, .unset, .unset] [])) := c8.trans (by
    show Steps p.tables e below (s₁.setTop (mkF m 33 #[.val (.int p0), .val (.int p1), .val (.int p2), .val (.int p3), .val (.int p4), .val (.int la), .val (.int ca), .val (.int cb), .val (.int ma), .unset, .unset, .unset, .unset, .unset, .unset, .unset, .unset, .unset, .unset, .unset, .unset, .unset, .unset, .unset, .unset] [])) _
    refine XS.iloadN X0.here hx rfl (hb hby at_33) rfl ?_
    refine XS.iconst X0.here hx rfl (hb hby at_34) ?_
    refine XS.iushr X0.here hx rfl (hb hby at_35) rfl ?_
    refine XS.sipush X0.here hx rfl (hb hby at_36) ?_
    show Steps p.tables e below (s₁.setTop (mkF m 39 #[.val (.int p0), .val (.int p1), .val (.int p2), .val (.int p3), .val (.int p4), .val (.int la), .val (.int ca), .val (.int cb), .val (.int ma), .unset, .unset, .unset, .unset, .unset, .unset, .unset, .unset, .unset, .unset, .unset, .unset, .unset, .unset, .unset, .unset] [(.int (255 : Int32)), (.int ((p1.toUInt32 >>> ((2 : Int32) &&& 31).toUInt32).toInt32))])) _
    refine XS.iand X0.here hx rfl (hb hby at_39) rfl ?_
    refine XS.istore X0.here hx rfl (hb hby at_40) rfl (l' := #[.val (.int p0), .val (.int p1), .val (.int p2), .val (.int p3), .val (.int p4), .val (.int la), .val (.int ca), .val (.int cb), .val (.int ma), .val (.int (((p1.toUInt32 >>> ((2 : Int32) &&& 31).toUInt32).toInt32) &&& (255 : Int32))), .unset, .unset, .unset, .unset, .unset, .unset, .unset, .unset, .unset, .unset, .unset, .unset, .unset, .unset, .unset]) rfl ?_
    exact Steps.refl _)
  obtain ⟨da, hda, c10⟩ : ∃ z : Int32, z = (((p1.toUInt32 >>> ((2 : Int32) &&& 31).toUInt32).toInt32) &&& (255 : Int32)) ∧ Steps p.tables e below S0 (s₁.setTop (mkF m 42 #[.val (.int p0), .val (.int p1), .val (.int p2), .val (.int p3), .val (.int p4), .val (.int la), .val (.int ca), .val (.int cb), .val (.int ma), .val (.int z), .unset, .unset, .unset, .unset, .unset, .unset, .unset, .unset, .unset, .unset, .unset, .unset, .unset, .unset, .unset] [])) := ⟨_, rfl, c9⟩
  have h8da : C8 da := hda ▸ (own_and255 _ : C8 _)
  have c11 : Steps p.tables e below S0 (s₁.setTop (mkF m 52 #[.val (.int p0), .val (.int p1), .val (.int p2), .val (.int p3), .val (.int p4), .val (.int la), .val (.int ca), .val (.int cb), .val (.int ma), .val (.int da), .val (.int (((p1.toUInt32 >>> ((10 : Int32) &&& 31).toUInt32).toInt32) &&& (255 : Int32))), .unset, .unset, .unset, .unset, .unset, .unset, .unset, .unset, .unset, .unset, .unset, .unset, .unset, .unset] [])) := c10.trans (by
    show Steps p.tables e below (s₁.setTop (mkF m 42 #[.val (.int p0), .val (.int p1), .val (.int p2), .val (.int p3), .val (.int p4), .val (.int la), .val (.int ca), .val (.int cb), .val (.int ma), .val (.int da), .unset, .unset, .unset, .unset, .unset, .unset, .unset, .unset, .unset, .unset, .unset, .unset, .unset, .unset, .unset] [])) _
    refine XS.iloadN X0.here hx rfl (hb hby at_42) rfl ?_
    refine XS.bipush X0.here hx rfl (hb hby at_43) ?_
    refine XS.iushr X0.here hx rfl (hb hby at_45) rfl ?_
    refine XS.sipush X0.here hx rfl (hb hby at_46) ?_
    show Steps p.tables e below (s₁.setTop (mkF m 49 #[.val (.int p0), .val (.int p1), .val (.int p2), .val (.int p3), .val (.int p4), .val (.int la), .val (.int ca), .val (.int cb), .val (.int ma), .val (.int da), .unset, .unset, .unset, .unset, .unset, .unset, .unset, .unset, .unset, .unset, .unset, .unset, .unset, .unset, .unset] [(.int (255 : Int32)), (.int ((p1.toUInt32 >>> ((10 : Int32) &&& 31).toUInt32).toInt32))])) _
    refine XS.iand X0.here hx rfl (hb hby at_49) rfl ?_
    refine XS.istore X0.here hx rfl (hb hby at_50) rfl (l' := #[.val (.int p0), .val (.int p1), .val (.int p2), .val (.int p3), .val (.int p4), .val (.int la), .val (.int ca), .val (.int cb), .val (.int ma), .val (.int da), .val (.int (((p1.toUInt32 >>> ((10 : Int32) &&& 31).toUInt32).toInt32) &&& (255 : Int32))), .unset, .unset, .unset, .unset, .unset, .unset, .unset, .unset, .unset, .unset, .unset, .unset, .unset, .unset]) rfl ?_
    exact Steps.refl _)
  obtain ⟨db, hdb, c12⟩ : ∃ z : Int32, z = (((p1.toUInt32 >>> ((10 : Int32) &&& 31).toUInt32).toInt32) &&& (255 : Int32)) ∧ Steps p.tables e below S0 (s₁.setTop (mkF m 52 #[.val (.int p0), .val (.int p1), .val (.int p2), .val (.int p3), .val (.int p4), .val (.int la), .val (.int ca), .val (.int cb), .val (.int ma), .val (.int da), .val (.int z), .unset, .unset, .unset, .unset, .unset, .unset, .unset, .unset, .unset, .unset, .unset, .unset, .unset, .unset] [])) := ⟨_, rfl, c11⟩
  have h8db : C8 db := hdb ▸ (own_and255 _ : C8 _)
  have c13 : Steps p.tables e below S0 (s₁.setTop (mkF m 56 #[.val (.int p0), .val (.int p1), .val (.int p2), .val (.int p3), .val (.int p4), .val (.int la), .val (.int ca), .val (.int cb), .val (.int ma), .val (.int da), .val (.int db), .unset, .unset, .unset, .unset, .unset, .unset, .unset, .unset, .unset, .unset, .unset, .unset, .unset, .unset] [(.int (p4 &&& (1 : Int32)))])) := c12.trans (by
    show Steps p.tables e below (s₁.setTop (mkF m 52 #[.val (.int p0), .val (.int p1), .val (.int p2), .val (.int p3), .val (.int p4), .val (.int la), .val (.int ca), .val (.int cb), .val (.int ma), .val (.int da), .val (.int db), .unset, .unset, .unset, .unset, .unset, .unset, .unset, .unset, .unset, .unset, .unset, .unset, .unset, .unset] [])) _
    refine XS.iload X0.here hx rfl (hb hby at_52) rfl ?_
    refine XS.iconst X0.here hx rfl (hb hby at_54) ?_
    refine XS.iand X0.here hx rfl (hb hby at_55) rfl ?_
    exact Steps.refl _)
  obtain ⟨lb, hlb, c16⟩ : ∃ (lb : Int32), lb = (if (p4 &&& (1 : Int32)) = (0 : Int32) then ((p2 &&& (3 : Int32)) % (3 : Int32)) else la) ∧ Steps p.tables e below S0 (s₁.setTop (mkF m 69 #[.val (.int p0), .val (.int p1), .val (.int p2), .val (.int p3), .val (.int p4), .val (.int la), .val (.int ca), .val (.int cb), .val (.int ma), .val (.int da), .val (.int db), .unset, .unset, .unset, .unset, .unset, .unset, .unset, .unset, .unset, .unset, .unset, .unset, .unset, .unset] [(.int lb)])) := by
    by_cases hq14 : (p4 &&& (1 : Int32)) = (0 : Int32)
    · exact ⟨_, (by rw [if_pos hq14]), c13.trans (by
        show Steps p.tables e below (s₁.setTop (mkF m 56 #[.val (.int p0), .val (.int p1), .val (.int p2), .val (.int p3), .val (.int p4), .val (.int la), .val (.int ca), .val (.int cb), .val (.int ma), .val (.int da), .val (.int db), .unset, .unset, .unset, .unset, .unset, .unset, .unset, .unset, .unset, .unset, .unset, .unset, .unset, .unset] [(.int (p4 &&& (1 : Int32)))])) _
        refine XS.ifYes X0.here hx rfl (pc0 := 56) (pc' := 64) rfl (hb hby at_56) rfl ((if0 _ _).trans (teq hq14).1) (by decide) (by decide) ?_
        refine XS.iloadN X0.here hx rfl (hb hby at_64) rfl ?_
        refine XS.iconst X0.here hx rfl (hb hby at_65) ?_
        refine XS.iand X0.here hx rfl (hb hby at_66) rfl ?_
        show Steps p.tables e below (s₁.setTop (mkF m 67 #[.val (.int p0), .val (.int p1), .val (.int p2), .val (.int p3), .val (.int p4), .val (.int la), .val (.int ca), .val (.int cb), .val (.int ma), .val (.int da), .val (.int db), .unset, .unset, .unset, .unset, .unset, .unset, .unset, .unset, .unset, .unset, .unset, .unset, .unset, .unset] [(.int (p2 &&& (3 : Int32)))])) _
        refine XS.iconst X0.here hx rfl (hb hby at_67) ?_
        show Steps p.tables e below (s₁.setTop (mkF m 68 #[.val (.int p0), .val (.int p1), .val (.int p2), .val (.int p3), .val (.int p4), .val (.int la), .val (.int ca), .val (.int cb), .val (.int ma), .val (.int da), .val (.int db), .unset, .unset, .unset, .unset, .unset, .unset, .unset, .unset, .unset, .unset, .unset, .unset, .unset, .unset] [(.int (3 : Int32)), (.int (p2 &&& (3 : Int32)))])) _
        refine iremM (g := (mkF m 68 #[.val (.int p0), .val (.int p1), .val (.int p2), .val (.int p3), .val (.int p4), .val (.int la), .val (.int ca), .val (.int cb), .val (.int ma), .val (.int da), .val (.int db), .unset, .unset, .unset, .unset, .unset, .unset, .unset, .unset, .unset, .unset, .unset, .unset, .unset, .unset] [(.int (3 : Int32)), (.int (p2 &&& (3 : Int32)))])) X0 hx rfl (hb hby at_68) rfl (by decide) ?_
        exact Steps.refl _)⟩
    · exact ⟨_, (by rw [if_neg hq14]), c13.trans (by
        show Steps p.tables e below (s₁.setTop (mkF m 56 #[.val (.int p0), .val (.int p1), .val (.int p2), .val (.int p3), .val (.int p4), .val (.int la), .val (.int ca), .val (.int cb), .val (.int ma), .val (.int da), .val (.int db), .unset, .unset, .unset, .unset, .unset, .unset, .unset, .unset, .unset, .unset, .unset, .unset, .unset, .unset] [(.int (p4 &&& (1 : Int32)))])) _
        refine XS.ifNo X0.here hx rfl (hb hby at_56) rfl ((if0 _ _).trans (feq hq14).1) ?_
        refine XS.iload X0.here hx rfl (hb hby at_59) rfl ?_
        refine XS.goto X0.here hx rfl (pc0 := 61) (pc' := 69) rfl (hb hby at_61) (by decide) (by decide) ?_
        exact Steps.refl _)⟩
  have l3lb : lb = 0 ∨ lb = 1 ∨ lb = 2 := by rw [hlb]; split <;> first | exact l3la | exact own_m3 _
  have c17 : Steps p.tables e below S0 (s₁.setTop (mkF m 75 #[.val (.int p0), .val (.int p1), .val (.int p2), .val (.int p3), .val (.int p4), .val (.int la), .val (.int ca), .val (.int cb), .val (.int ma), .val (.int da), .val (.int db), .val (.int lb), .unset, .unset, .unset, .unset, .unset, .unset, .unset, .unset, .unset, .unset, .unset, .unset, .unset] [(.int (p4 &&& (2 : Int32)))])) := c16.trans (by
    show Steps p.tables e below (s₁.setTop (mkF m 69 #[.val (.int p0), .val (.int p1), .val (.int p2), .val (.int p3), .val (.int p4), .val (.int la), .val (.int ca), .val (.int cb), .val (.int ma), .val (.int da), .val (.int db), .unset, .unset, .unset, .unset, .unset, .unset, .unset, .unset, .unset, .unset, .unset, .unset, .unset, .unset] [(.int lb)])) _
    refine XS.istore X0.here hx rfl (hb hby at_69) rfl (l' := #[.val (.int p0), .val (.int p1), .val (.int p2), .val (.int p3), .val (.int p4), .val (.int la), .val (.int ca), .val (.int cb), .val (.int ma), .val (.int da), .val (.int db), .val (.int lb), .unset, .unset, .unset, .unset, .unset, .unset, .unset, .unset, .unset, .unset, .unset, .unset, .unset]) rfl ?_
    refine XS.iload X0.here hx rfl (hb hby at_71) rfl ?_
    refine XS.iconst X0.here hx rfl (hb hby at_73) ?_
    refine XS.iand X0.here hx rfl (hb hby at_74) rfl ?_
    exact Steps.refl _)
  obtain ⟨ea, hea, c20⟩ : ∃ (ea : Int32), ea = (if (p4 &&& (2 : Int32)) = (0 : Int32) then (((p2.toUInt32 >>> ((2 : Int32) &&& 31).toUInt32).toInt32) &&& (255 : Int32)) else ca) ∧ Steps p.tables e below S0 (s₁.setTop (mkF m 90 #[.val (.int p0), .val (.int p1), .val (.int p2), .val (.int p3), .val (.int p4), .val (.int la), .val (.int ca), .val (.int cb), .val (.int ma), .val (.int da), .val (.int db), .val (.int lb), .unset, .unset, .unset, .unset, .unset, .unset, .unset, .unset, .unset, .unset, .unset, .unset, .unset] [(.int ea)])) := by
    by_cases hq18 : (p4 &&& (2 : Int32)) = (0 : Int32)
    · exact ⟨_, (by rw [if_pos hq18]), c17.trans (by
        show Steps p.tables e below (s₁.setTop (mkF m 75 #[.val (.int p0), .val (.int p1), .val (.int p2), .val (.int p3), .val (.int p4), .val (.int la), .val (.int ca), .val (.int cb), .val (.int ma), .val (.int da), .val (.int db), .val (.int lb), .unset, .unset, .unset, .unset, .unset, .unset, .unset, .unset, .unset, .unset, .unset, .unset, .unset] [(.int (p4 &&& (2 : Int32)))])) _
        refine XS.ifYes X0.here hx rfl (pc0 := 75) (pc' := 83) rfl (hb hby at_75) rfl ((if0 _ _).trans (teq hq18).1) (by decide) (by decide) ?_
        refine XS.iloadN X0.here hx rfl (hb hby at_83) rfl ?_
        refine XS.iconst X0.here hx rfl (hb hby at_84) ?_
        refine XS.iushr X0.here hx rfl (hb hby at_85) rfl ?_
        show Steps p.tables e below (s₁.setTop (mkF m 86 #[.val (.int p0), .val (.int p1), .val (.int p2), .val (.int p3), .val (.int p4), .val (.int la), .val (.int ca), .val (.int cb), .val (.int ma), .val (.int da), .val (.int db), .val (.int lb), .unset, .unset, .unset, .unset, .unset, .unset, .unset, .unset, .unset, .unset, .unset, .unset, .unset] [(.int ((p2.toUInt32 >>> ((2 : Int32) &&& 31).toUInt32).toInt32))])) _
        refine XS.sipush X0.here hx rfl (hb hby at_86) ?_
        refine XS.iand X0.here hx rfl (hb hby at_89) rfl ?_
        exact Steps.refl _)⟩
    · exact ⟨_, (by rw [if_neg hq18]), c17.trans (by
        show Steps p.tables e below (s₁.setTop (mkF m 75 #[.val (.int p0), .val (.int p1), .val (.int p2), .val (.int p3), .val (.int p4), .val (.int la), .val (.int ca), .val (.int cb), .val (.int ma), .val (.int da), .val (.int db), .val (.int lb), .unset, .unset, .unset, .unset, .unset, .unset, .unset, .unset, .unset, .unset, .unset, .unset, .unset] [(.int (p4 &&& (2 : Int32)))])) _
        refine XS.ifNo X0.here hx rfl (hb hby at_75) rfl ((if0 _ _).trans (feq hq18).1) ?_
        refine XS.iload X0.here hx rfl (hb hby at_78) rfl ?_
        refine XS.goto X0.here hx rfl (pc0 := 80) (pc' := 90) rfl (hb hby at_80) (by decide) (by decide) ?_
        exact Steps.refl _)⟩
  have h8ea : C8 ea := by rw [hea]; split <;> first | exact h8ca | exact own_and255 _
  have c21 : Steps p.tables e below S0 (s₁.setTop (mkF m 96 #[.val (.int p0), .val (.int p1), .val (.int p2), .val (.int p3), .val (.int p4), .val (.int la), .val (.int ca), .val (.int cb), .val (.int ma), .val (.int da), .val (.int db), .val (.int lb), .val (.int ea), .unset, .unset, .unset, .unset, .unset, .unset, .unset, .unset, .unset, .unset, .unset, .unset] [(.int (p4 &&& (4 : Int32)))])) := c20.trans (by
    show Steps p.tables e below (s₁.setTop (mkF m 90 #[.val (.int p0), .val (.int p1), .val (.int p2), .val (.int p3), .val (.int p4), .val (.int la), .val (.int ca), .val (.int cb), .val (.int ma), .val (.int da), .val (.int db), .val (.int lb), .unset, .unset, .unset, .unset, .unset, .unset, .unset, .unset, .unset, .unset, .unset, .unset, .unset] [(.int ea)])) _
    refine XS.istore X0.here hx rfl (hb hby at_90) rfl (l' := #[.val (.int p0), .val (.int p1), .val (.int p2), .val (.int p3), .val (.int p4), .val (.int la), .val (.int ca), .val (.int cb), .val (.int ma), .val (.int da), .val (.int db), .val (.int lb), .val (.int ea), .unset, .unset, .unset, .unset, .unset, .unset, .unset, .unset, .unset, .unset, .unset, .unset]) rfl ?_
    refine XS.iload X0.here hx rfl (hb hby at_92) rfl ?_
    refine XS.iconst X0.here hx rfl (hb hby at_94) ?_
    refine XS.iand X0.here hx rfl (hb hby at_95) rfl ?_
    exact Steps.refl _)
  obtain ⟨eb, heb, c24⟩ : ∃ (eb : Int32), eb = (if (p4 &&& (4 : Int32)) = (0 : Int32) then (((p2.toUInt32 >>> ((10 : Int32) &&& 31).toUInt32).toInt32) &&& (255 : Int32)) else cb) ∧ Steps p.tables e below S0 (s₁.setTop (mkF m 112 #[.val (.int p0), .val (.int p1), .val (.int p2), .val (.int p3), .val (.int p4), .val (.int la), .val (.int ca), .val (.int cb), .val (.int ma), .val (.int da), .val (.int db), .val (.int lb), .val (.int ea), .unset, .unset, .unset, .unset, .unset, .unset, .unset, .unset, .unset, .unset, .unset, .unset] [(.int eb)])) := by
    by_cases hq22 : (p4 &&& (4 : Int32)) = (0 : Int32)
    · exact ⟨_, (by rw [if_pos hq22]), c21.trans (by
        show Steps p.tables e below (s₁.setTop (mkF m 96 #[.val (.int p0), .val (.int p1), .val (.int p2), .val (.int p3), .val (.int p4), .val (.int la), .val (.int ca), .val (.int cb), .val (.int ma), .val (.int da), .val (.int db), .val (.int lb), .val (.int ea), .unset, .unset, .unset, .unset, .unset, .unset, .unset, .unset, .unset, .unset, .unset, .unset] [(.int (p4 &&& (4 : Int32)))])) _
        refine XS.ifYes X0.here hx rfl (pc0 := 96) (pc' := 104) rfl (hb hby at_96) rfl ((if0 _ _).trans (teq hq22).1) (by decide) (by decide) ?_
        refine XS.iloadN X0.here hx rfl (hb hby at_104) rfl ?_
        refine XS.bipush X0.here hx rfl (hb hby at_105) ?_
        refine XS.iushr X0.here hx rfl (hb hby at_107) rfl ?_
        show Steps p.tables e below (s₁.setTop (mkF m 108 #[.val (.int p0), .val (.int p1), .val (.int p2), .val (.int p3), .val (.int p4), .val (.int la), .val (.int ca), .val (.int cb), .val (.int ma), .val (.int da), .val (.int db), .val (.int lb), .val (.int ea), .unset, .unset, .unset, .unset, .unset, .unset, .unset, .unset, .unset, .unset, .unset, .unset] [(.int ((p2.toUInt32 >>> ((10 : Int32) &&& 31).toUInt32).toInt32))])) _
        refine XS.sipush X0.here hx rfl (hb hby at_108) ?_
        refine XS.iand X0.here hx rfl (hb hby at_111) rfl ?_
        exact Steps.refl _)⟩
    · exact ⟨_, (by rw [if_neg hq22]), c21.trans (by
        show Steps p.tables e below (s₁.setTop (mkF m 96 #[.val (.int p0), .val (.int p1), .val (.int p2), .val (.int p3), .val (.int p4), .val (.int la), .val (.int ca), .val (.int cb), .val (.int ma), .val (.int da), .val (.int db), .val (.int lb), .val (.int ea), .unset, .unset, .unset, .unset, .unset, .unset, .unset, .unset, .unset, .unset, .unset, .unset] [(.int (p4 &&& (4 : Int32)))])) _
        refine XS.ifNo X0.here hx rfl (hb hby at_96) rfl ((if0 _ _).trans (feq hq22).1) ?_
        refine XS.iload X0.here hx rfl (hb hby at_99) rfl ?_
        refine XS.goto X0.here hx rfl (pc0 := 101) (pc' := 112) rfl (hb hby at_101) (by decide) (by decide) ?_
        exact Steps.refl _)⟩
  have h8eb : C8 eb := by rw [heb]; split <;> first | exact h8cb | exact own_and255 _
  have c25 : Steps p.tables e below S0 (s₁.setTop (mkF m 119 #[.val (.int p0), .val (.int p1), .val (.int p2), .val (.int p3), .val (.int p4), .val (.int la), .val (.int ca), .val (.int cb), .val (.int ma), .val (.int da), .val (.int db), .val (.int lb), .val (.int ea), .val (.int eb), .unset, .unset, .unset, .unset, .unset, .unset, .unset, .unset, .unset, .unset, .unset] [(.int (p4 &&& (8 : Int32)))])) := c24.trans (by
    show Steps p.tables e below (s₁.setTop (mkF m 112 #[.val (.int p0), .val (.int p1), .val (.int p2), .val (.int p3), .val (.int p4), .val (.int la), .val (.int ca), .val (.int cb), .val (.int ma), .val (.int da), .val (.int db), .val (.int lb), .val (.int ea), .unset, .unset, .unset, .unset, .unset, .unset, .unset, .unset, .unset, .unset, .unset, .unset] [(.int eb)])) _
    refine XS.istore X0.here hx rfl (hb hby at_112) rfl (l' := #[.val (.int p0), .val (.int p1), .val (.int p2), .val (.int p3), .val (.int p4), .val (.int la), .val (.int ca), .val (.int cb), .val (.int ma), .val (.int da), .val (.int db), .val (.int lb), .val (.int ea), .val (.int eb), .unset, .unset, .unset, .unset, .unset, .unset, .unset, .unset, .unset, .unset, .unset]) rfl ?_
    refine XS.iload X0.here hx rfl (hb hby at_114) rfl ?_
    refine XS.bipush X0.here hx rfl (hb hby at_116) ?_
    refine XS.iand X0.here hx rfl (hb hby at_118) rfl ?_
    exact Steps.refl _)
  obtain ⟨mb, hmb, c28⟩ : ∃ (mb : Int32), mb = (if (p4 &&& (8 : Int32)) = (0 : Int32) then ((p3 &&& (3 : Int32)) % (3 : Int32)) else ma) ∧ Steps p.tables e below S0 (s₁.setTop (mkF m 132 #[.val (.int p0), .val (.int p1), .val (.int p2), .val (.int p3), .val (.int p4), .val (.int la), .val (.int ca), .val (.int cb), .val (.int ma), .val (.int da), .val (.int db), .val (.int lb), .val (.int ea), .val (.int eb), .unset, .unset, .unset, .unset, .unset, .unset, .unset, .unset, .unset, .unset, .unset] [(.int mb)])) := by
    by_cases hq26 : (p4 &&& (8 : Int32)) = (0 : Int32)
    · exact ⟨_, (by rw [if_pos hq26]), c25.trans (by
        show Steps p.tables e below (s₁.setTop (mkF m 119 #[.val (.int p0), .val (.int p1), .val (.int p2), .val (.int p3), .val (.int p4), .val (.int la), .val (.int ca), .val (.int cb), .val (.int ma), .val (.int da), .val (.int db), .val (.int lb), .val (.int ea), .val (.int eb), .unset, .unset, .unset, .unset, .unset, .unset, .unset, .unset, .unset, .unset, .unset] [(.int (p4 &&& (8 : Int32)))])) _
        refine XS.ifYes X0.here hx rfl (pc0 := 119) (pc' := 127) rfl (hb hby at_119) rfl ((if0 _ _).trans (teq hq26).1) (by decide) (by decide) ?_
        refine XS.iloadN X0.here hx rfl (hb hby at_127) rfl ?_
        refine XS.iconst X0.here hx rfl (hb hby at_128) ?_
        refine XS.iand X0.here hx rfl (hb hby at_129) rfl ?_
        show Steps p.tables e below (s₁.setTop (mkF m 130 #[.val (.int p0), .val (.int p1), .val (.int p2), .val (.int p3), .val (.int p4), .val (.int la), .val (.int ca), .val (.int cb), .val (.int ma), .val (.int da), .val (.int db), .val (.int lb), .val (.int ea), .val (.int eb), .unset, .unset, .unset, .unset, .unset, .unset, .unset, .unset, .unset, .unset, .unset] [(.int (p3 &&& (3 : Int32)))])) _
        refine XS.iconst X0.here hx rfl (hb hby at_130) ?_
        show Steps p.tables e below (s₁.setTop (mkF m 131 #[.val (.int p0), .val (.int p1), .val (.int p2), .val (.int p3), .val (.int p4), .val (.int la), .val (.int ca), .val (.int cb), .val (.int ma), .val (.int da), .val (.int db), .val (.int lb), .val (.int ea), .val (.int eb), .unset, .unset, .unset, .unset, .unset, .unset, .unset, .unset, .unset, .unset, .unset] [(.int (3 : Int32)), (.int (p3 &&& (3 : Int32)))])) _
        refine iremM (g := (mkF m 131 #[.val (.int p0), .val (.int p1), .val (.int p2), .val (.int p3), .val (.int p4), .val (.int la), .val (.int ca), .val (.int cb), .val (.int ma), .val (.int da), .val (.int db), .val (.int lb), .val (.int ea), .val (.int eb), .unset, .unset, .unset, .unset, .unset, .unset, .unset, .unset, .unset, .unset, .unset] [(.int (3 : Int32)), (.int (p3 &&& (3 : Int32)))])) X0 hx rfl (hb hby at_131) rfl (by decide) ?_
        exact Steps.refl _)⟩
    · exact ⟨_, (by rw [if_neg hq26]), c25.trans (by
        show Steps p.tables e below (s₁.setTop (mkF m 119 #[.val (.int p0), .val (.int p1), .val (.int p2), .val (.int p3), .val (.int p4), .val (.int la), .val (.int ca), .val (.int cb), .val (.int ma), .val (.int da), .val (.int db), .val (.int lb), .val (.int ea), .val (.int eb), .unset, .unset, .unset, .unset, .unset, .unset, .unset, .unset, .unset, .unset, .unset] [(.int (p4 &&& (8 : Int32)))])) _
        refine XS.ifNo X0.here hx rfl (hb hby at_119) rfl ((if0 _ _).trans (feq hq26).1) ?_
        refine XS.iload X0.here hx rfl (hb hby at_122) rfl ?_
        refine XS.goto X0.here hx rfl (pc0 := 124) (pc' := 132) rfl (hb hby at_124) (by decide) (by decide) ?_
        exact Steps.refl _)⟩
  have l3mb : mb = 0 ∨ mb = 1 ∨ mb = 2 := by rw [hmb]; split <;> first | exact l3ma | exact own_m3 _
  have c29 : Steps p.tables e below S0 (s₁.setTop (mkF m 139 #[.val (.int p0), .val (.int p1), .val (.int p2), .val (.int p3), .val (.int p4), .val (.int la), .val (.int ca), .val (.int cb), .val (.int ma), .val (.int da), .val (.int db), .val (.int lb), .val (.int ea), .val (.int eb), .val (.int mb), .unset, .unset, .unset, .unset, .unset, .unset, .unset, .unset, .unset, .unset] [(.int (p4 &&& (16 : Int32)))])) := c28.trans (by
    show Steps p.tables e below (s₁.setTop (mkF m 132 #[.val (.int p0), .val (.int p1), .val (.int p2), .val (.int p3), .val (.int p4), .val (.int la), .val (.int ca), .val (.int cb), .val (.int ma), .val (.int da), .val (.int db), .val (.int lb), .val (.int ea), .val (.int eb), .unset, .unset, .unset, .unset, .unset, .unset, .unset, .unset, .unset, .unset, .unset] [(.int mb)])) _
    refine XS.istore X0.here hx rfl (hb hby at_132) rfl (l' := #[.val (.int p0), .val (.int p1), .val (.int p2), .val (.int p3), .val (.int p4), .val (.int la), .val (.int ca), .val (.int cb), .val (.int ma), .val (.int da), .val (.int db), .val (.int lb), .val (.int ea), .val (.int eb), .val (.int mb), .unset, .unset, .unset, .unset, .unset, .unset, .unset, .unset, .unset, .unset]) rfl ?_
    refine XS.iload X0.here hx rfl (hb hby at_134) rfl ?_
    refine XS.bipush X0.here hx rfl (hb hby at_136) ?_
    refine XS.iand X0.here hx rfl (hb hby at_138) rfl ?_
    exact Steps.refl _)
  obtain ⟨fa, hfa, c32⟩ : ∃ (fa : Int32), fa = (if (p4 &&& (16 : Int32)) = (0 : Int32) then (((p3.toUInt32 >>> ((2 : Int32) &&& 31).toUInt32).toInt32) &&& (255 : Int32)) else da) ∧ Steps p.tables e below S0 (s₁.setTop (mkF m 154 #[.val (.int p0), .val (.int p1), .val (.int p2), .val (.int p3), .val (.int p4), .val (.int la), .val (.int ca), .val (.int cb), .val (.int ma), .val (.int da), .val (.int db), .val (.int lb), .val (.int ea), .val (.int eb), .val (.int mb), .unset, .unset, .unset, .unset, .unset, .unset, .unset, .unset, .unset, .unset] [(.int fa)])) := by
    by_cases hq30 : (p4 &&& (16 : Int32)) = (0 : Int32)
    · exact ⟨_, (by rw [if_pos hq30]), c29.trans (by
        show Steps p.tables e below (s₁.setTop (mkF m 139 #[.val (.int p0), .val (.int p1), .val (.int p2), .val (.int p3), .val (.int p4), .val (.int la), .val (.int ca), .val (.int cb), .val (.int ma), .val (.int da), .val (.int db), .val (.int lb), .val (.int ea), .val (.int eb), .val (.int mb), .unset, .unset, .unset, .unset, .unset, .unset, .unset, .unset, .unset, .unset] [(.int (p4 &&& (16 : Int32)))])) _
        refine XS.ifYes X0.here hx rfl (pc0 := 139) (pc' := 147) rfl (hb hby at_139) rfl ((if0 _ _).trans (teq hq30).1) (by decide) (by decide) ?_
        refine XS.iloadN X0.here hx rfl (hb hby at_147) rfl ?_
        refine XS.iconst X0.here hx rfl (hb hby at_148) ?_
        refine XS.iushr X0.here hx rfl (hb hby at_149) rfl ?_
        show Steps p.tables e below (s₁.setTop (mkF m 150 #[.val (.int p0), .val (.int p1), .val (.int p2), .val (.int p3), .val (.int p4), .val (.int la), .val (.int ca), .val (.int cb), .val (.int ma), .val (.int da), .val (.int db), .val (.int lb), .val (.int ea), .val (.int eb), .val (.int mb), .unset, .unset, .unset, .unset, .unset, .unset, .unset, .unset, .unset, .unset] [(.int ((p3.toUInt32 >>> ((2 : Int32) &&& 31).toUInt32).toInt32))])) _
        refine XS.sipush X0.here hx rfl (hb hby at_150) ?_
        refine XS.iand X0.here hx rfl (hb hby at_153) rfl ?_
        exact Steps.refl _)⟩
    · exact ⟨_, (by rw [if_neg hq30]), c29.trans (by
        show Steps p.tables e below (s₁.setTop (mkF m 139 #[.val (.int p0), .val (.int p1), .val (.int p2), .val (.int p3), .val (.int p4), .val (.int la), .val (.int ca), .val (.int cb), .val (.int ma), .val (.int da), .val (.int db), .val (.int lb), .val (.int ea), .val (.int eb), .val (.int mb), .unset, .unset, .unset, .unset, .unset, .unset, .unset, .unset, .unset, .unset] [(.int (p4 &&& (16 : Int32)))])) _
        refine XS.ifNo X0.here hx rfl (hb hby at_139) rfl ((if0 _ _).trans (feq hq30).1) ?_
        refine XS.iload X0.here hx rfl (hb hby at_142) rfl ?_
        refine XS.goto X0.here hx rfl (pc0 := 144) (pc' := 154) rfl (hb hby at_144) (by decide) (by decide) ?_
        exact Steps.refl _)⟩
  have h8fa : C8 fa := by rw [hfa]; split <;> first | exact h8da | exact own_and255 _
  have c33 : Steps p.tables e below S0 (s₁.setTop (mkF m 161 #[.val (.int p0), .val (.int p1), .val (.int p2), .val (.int p3), .val (.int p4), .val (.int la), .val (.int ca), .val (.int cb), .val (.int ma), .val (.int da), .val (.int db), .val (.int lb), .val (.int ea), .val (.int eb), .val (.int mb), .val (.int fa), .unset, .unset, .unset, .unset, .unset, .unset, .unset, .unset, .unset] [(.int (p4 &&& (32 : Int32)))])) := c32.trans (by
    show Steps p.tables e below (s₁.setTop (mkF m 154 #[.val (.int p0), .val (.int p1), .val (.int p2), .val (.int p3), .val (.int p4), .val (.int la), .val (.int ca), .val (.int cb), .val (.int ma), .val (.int da), .val (.int db), .val (.int lb), .val (.int ea), .val (.int eb), .val (.int mb), .unset, .unset, .unset, .unset, .unset, .unset, .unset, .unset, .unset, .unset] [(.int fa)])) _
    refine XS.istore X0.here hx rfl (hb hby at_154) rfl (l' := #[.val (.int p0), .val (.int p1), .val (.int p2), .val (.int p3), .val (.int p4), .val (.int la), .val (.int ca), .val (.int cb), .val (.int ma), .val (.int da), .val (.int db), .val (.int lb), .val (.int ea), .val (.int eb), .val (.int mb), .val (.int fa), .unset, .unset, .unset, .unset, .unset, .unset, .unset, .unset, .unset]) rfl ?_
    refine XS.iload X0.here hx rfl (hb hby at_156) rfl ?_
    refine XS.bipush X0.here hx rfl (hb hby at_158) ?_
    refine XS.iand X0.here hx rfl (hb hby at_160) rfl ?_
    exact Steps.refl _)
  obtain ⟨fb, hfb, c36⟩ : ∃ (fb : Int32), fb = (if (p4 &&& (32 : Int32)) = (0 : Int32) then (((p3.toUInt32 >>> ((10 : Int32) &&& 31).toUInt32).toInt32) &&& (255 : Int32)) else db) ∧ Steps p.tables e below S0 (s₁.setTop (mkF m 177 #[.val (.int p0), .val (.int p1), .val (.int p2), .val (.int p3), .val (.int p4), .val (.int la), .val (.int ca), .val (.int cb), .val (.int ma), .val (.int da), .val (.int db), .val (.int lb), .val (.int ea), .val (.int eb), .val (.int mb), .val (.int fa), .unset, .unset, .unset, .unset, .unset, .unset, .unset, .unset, .unset] [(.int fb)])) := by
    by_cases hq34 : (p4 &&& (32 : Int32)) = (0 : Int32)
    · exact ⟨_, (by rw [if_pos hq34]), c33.trans (by
        show Steps p.tables e below (s₁.setTop (mkF m 161 #[.val (.int p0), .val (.int p1), .val (.int p2), .val (.int p3), .val (.int p4), .val (.int la), .val (.int ca), .val (.int cb), .val (.int ma), .val (.int da), .val (.int db), .val (.int lb), .val (.int ea), .val (.int eb), .val (.int mb), .val (.int fa), .unset, .unset, .unset, .unset, .unset, .unset, .unset, .unset, .unset] [(.int (p4 &&& (32 : Int32)))])) _
        refine XS.ifYes X0.here hx rfl (pc0 := 161) (pc' := 169) rfl (hb hby at_161) rfl ((if0 _ _).trans (teq hq34).1) (by decide) (by decide) ?_
        refine XS.iloadN X0.here hx rfl (hb hby at_169) rfl ?_
        refine XS.bipush X0.here hx rfl (hb hby at_170) ?_
        refine XS.iushr X0.here hx rfl (hb hby at_172) rfl ?_
        show Steps p.tables e below (s₁.setTop (mkF m 173 #[.val (.int p0), .val (.int p1), .val (.int p2), .val (.int p3), .val (.int p4), .val (.int la), .val (.int ca), .val (.int cb), .val (.int ma), .val (.int da), .val (.int db), .val (.int lb), .val (.int ea), .val (.int eb), .val (.int mb), .val (.int fa), .unset, .unset, .unset, .unset, .unset, .unset, .unset, .unset, .unset] [(.int ((p3.toUInt32 >>> ((10 : Int32) &&& 31).toUInt32).toInt32))])) _
        refine XS.sipush X0.here hx rfl (hb hby at_173) ?_
        refine XS.iand X0.here hx rfl (hb hby at_176) rfl ?_
        exact Steps.refl _)⟩
    · exact ⟨_, (by rw [if_neg hq34]), c33.trans (by
        show Steps p.tables e below (s₁.setTop (mkF m 161 #[.val (.int p0), .val (.int p1), .val (.int p2), .val (.int p3), .val (.int p4), .val (.int la), .val (.int ca), .val (.int cb), .val (.int ma), .val (.int da), .val (.int db), .val (.int lb), .val (.int ea), .val (.int eb), .val (.int mb), .val (.int fa), .unset, .unset, .unset, .unset, .unset, .unset, .unset, .unset, .unset] [(.int (p4 &&& (32 : Int32)))])) _
        refine XS.ifNo X0.here hx rfl (hb hby at_161) rfl ((if0 _ _).trans (feq hq34).1) ?_
        refine XS.iload X0.here hx rfl (hb hby at_164) rfl ?_
        refine XS.goto X0.here hx rfl (pc0 := 166) (pc' := 177) rfl (hb hby at_166) (by decide) (by decide) ?_
        exact Steps.refl _)⟩
  have h8fb : C8 fb := by rw [hfb]; split <;> first | exact h8db | exact own_and255 _
  have c37 : Steps p.tables e below S0 (s₁.setTop (mkF m 185 #[.val (.int p0), .val (.int p1), .val (.int p2), .val (.int p3), .val (.int p4), .val (.int la), .val (.int ca), .val (.int cb), .val (.int ma), .val (.int da), .val (.int db), .val (.int lb), .val (.int ea), .val (.int eb), .val (.int mb), .val (.int fa), .val (.int fb), .unset, .unset, .unset, .unset, .unset, .unset, .unset, .unset] [(.int cb), (.int ca), (.int la)])) := c36.trans (by
    show Steps p.tables e below (s₁.setTop (mkF m 177 #[.val (.int p0), .val (.int p1), .val (.int p2), .val (.int p3), .val (.int p4), .val (.int la), .val (.int ca), .val (.int cb), .val (.int ma), .val (.int da), .val (.int db), .val (.int lb), .val (.int ea), .val (.int eb), .val (.int mb), .val (.int fa), .unset, .unset, .unset, .unset, .unset, .unset, .unset, .unset, .unset] [(.int fb)])) _
    refine XS.istore X0.here hx rfl (hb hby at_177) rfl (l' := #[.val (.int p0), .val (.int p1), .val (.int p2), .val (.int p3), .val (.int p4), .val (.int la), .val (.int ca), .val (.int cb), .val (.int ma), .val (.int da), .val (.int db), .val (.int lb), .val (.int ea), .val (.int eb), .val (.int mb), .val (.int fa), .val (.int fb), .unset, .unset, .unset, .unset, .unset, .unset, .unset, .unset]) rfl ?_
    refine XS.iload X0.here hx rfl (hb hby at_179) rfl ?_
    refine XS.iload X0.here hx rfl (hb hby at_181) rfl ?_
    refine XS.iload X0.here hx rfl (hb hby at_183) rfl ?_
    exact Steps.refl _)
  obtain ⟨_, _, ⟨T38, L38, kk38, nn38⟩, -, Xx38, hSx38, hgx38, ⟨Lc38, hQ38, l38, y38, z38, r38⟩, st38⟩ := callSS X0 hx (y := (⟨"com/example/evenkeel/evenkeel/RouteEqualsPinLaw", "mk", "(III)Ljava/lang/String;"⟩ : MethodName)) hown (mvT hZ (hw _ (List.mem_of_getElem? (i := 0) rfl))) (mvT hZ (hw _ (List.mem_of_getElem? (i := 1) rfl))) (mvT hZ (hw _ (List.mem_of_getElem? (i := 2) rfl))) (mvT hZ (hw _ (List.mem_of_getElem? (i := 3) rfl))) (by decide) (backOfSH (W := 0) (rmMk l Z a0 hw [] la ca cb G1 h0 n0 Z0 h8ca h8cb O2 P5 X00) hZ (hw _ (List.mem_of_getElem? (i := 3) rfl)) (hw _ (List.mem_of_getElem? (i := 2) rfl)) (by decide) (by decide) hEL R0.1) (g := (mkF m 185 #[.val (.int p0), .val (.int p1), .val (.int p2), .val (.int p3), .val (.int p4), .val (.int la), .val (.int ca), .val (.int cb), .val (.int ma), .val (.int da), .val (.int db), .val (.int lb), .val (.int ea), .val (.int eb), .val (.int mb), .val (.int fa), .val (.int fb), .unset, .unset, .unset, .unset, .unset, .unset, .unset, .unset] [(.int cb), (.int ca), (.int la)])) rfl (by rw [hml]; rfl) (argsL := [(.int la), (.int ca), (.int cb)]) (rest := []) (lenOf pd_oIIIcLjavaslangsStringe rfl) rfl (by show 2 * 0 + _ ≤ _; exact Nat.le_of_eq rfl) (hb hby at_185) (fun _ _ => ⟨rfl, e0, (by decide : 0 + 6 ≤ _), (by decide : 0 + 12 ≤ _)⟩)
  dsimp only [Pt.U, Pt.locs, Pt.cells, Pt.slots] at Xx38 hSx38 hgx38 l38 y38 z38 r38 st38 hQ38
  subst l38 y38 z38
  obtain ⟨X38, hS38, hZ38, hown38⟩ := rebS hS0 (Nat.zero_le _) Xx38 hSx38 (e0 ▸ hgx38) hZ hown
  obtain ⟨x38, t38, kb38, rfl, Nq38, Kq38, gx38, So38⟩ := hQ38
  have c39 : Steps p.tables e below S0 (T38.setTop (mkF m 188 #[.val (.int p0), .val (.int p1), .val (.int p2), .val (.int p3), .val (.int p4), .val (.int la), .val (.int ca), .val (.int cb), .val (.int ma), .val (.int da), .val (.int db), .val (.int lb), .val (.int ea), .val (.int eb), .val (.int mb), .val (.int fa), .val (.int fb), .unset, .unset, .unset, .unset, .unset, .unset, .unset, .unset] [(.ref x38)])) := c37.trans (st38)
  have N38 := Fr.app N0 Nq38
  have z38 : n0 ≤ T38.heap.size := Nat.le_trans Z0 Kq38.1
  have K38 := K0.trans Kq38 all0
  have R38 := R0.trans r38
  have lt_x38 := So38.1.1.lt
  have lt_t38 := So38.1.2.2.2.1.lt
  have c40 : Steps p.tables e below S0 (T38.setTop (mkF m 196 #[.val (.int p0), .val (.int p1), .val (.int p2), .val (.int p3), .val (.int p4), .val (.int la), .val (.int ca), .val (.int cb), .val (.int ma), .val (.int da), .val (.int db), .val (.int lb), .val (.int ea), .val (.int eb), .val (.int mb), .val (.int fa), .val (.int fb), .val (.ref x38), .unset, .unset, .unset, .unset, .unset, .unset, .unset] [(.int db), (.int da), (.int ma)])) := c39.trans (by
    show Steps p.tables e below (T38.setTop (mkF m 188 #[.val (.int p0), .val (.int p1), .val (.int p2), .val (.int p3), .val (.int p4), .val (.int la), .val (.int ca), .val (.int cb), .val (.int ma), .val (.int da), .val (.int db), .val (.int lb), .val (.int ea), .val (.int eb), .val (.int mb), .val (.int fa), .val (.int fb), .unset, .unset, .unset, .unset, .unset, .unset, .unset, .unset] [(.ref x38)])) _
    refine XS.astore X38.here hx rfl (hb hby at_188) rfl rfl (l' := #[.val (.int p0), .val (.int p1), .val (.int p2), .val (.int p3), .val (.int p4), .val (.int la), .val (.int ca), .val (.int cb), .val (.int ma), .val (.int da), .val (.int db), .val (.int lb), .val (.int ea), .val (.int eb), .val (.int mb), .val (.int fa), .val (.int fb), .val (.ref x38), .unset, .unset, .unset, .unset, .unset, .unset, .unset]) rfl ?_
    refine XS.iload X38.here hx rfl (hb hby at_190) rfl ?_
    refine XS.iload X38.here hx rfl (hb hby at_192) rfl ?_
    refine XS.iload X38.here hx rfl (hb hby at_194) rfl ?_
    exact Steps.refl _)
  obtain ⟨_, _, ⟨T41, L41, kk41, nn41⟩, -, Xx41, hSx41, hgx41, ⟨Lc41, hQ41, l41, y41, z41, r41⟩, st41⟩ := callSS X38 hx (y := (⟨"com/example/evenkeel/evenkeel/RouteEqualsPinLaw", "mk", "(III)Ljava/lang/String;"⟩ : MethodName)) hown38 (mvT hZ38 (hw _ (List.mem_of_getElem? (i := 0) rfl))) (mvT hZ38 (hw _ (List.mem_of_getElem? (i := 1) rfl))) (mvT hZ38 (hw _ (List.mem_of_getElem? (i := 2) rfl))) (mvT hZ38 (hw _ (List.mem_of_getElem? (i := 3) rfl))) (by decide) (backOfSH (W := 0) (rmMk l Z a0 hw [] ma da db G1 T38.heap n0 z38 h8da h8db O2 P5 (X00.keep Kq38 all0)) hZ38 (hw _ (List.mem_of_getElem? (i := 3) rfl)) (hw _ (List.mem_of_getElem? (i := 2) rfl)) (by decide) (by decide) hEL R38.1) (g := (mkF m 196 #[.val (.int p0), .val (.int p1), .val (.int p2), .val (.int p3), .val (.int p4), .val (.int la), .val (.int ca), .val (.int cb), .val (.int ma), .val (.int da), .val (.int db), .val (.int lb), .val (.int ea), .val (.int eb), .val (.int mb), .val (.int fa), .val (.int fb), .val (.ref x38), .unset, .unset, .unset, .unset, .unset, .unset, .unset] [(.int db), (.int da), (.int ma)])) rfl (by rw [hml]; rfl) (argsL := [(.int ma), (.int da), (.int db)]) (rest := []) (lenOf pd_oIIIcLjavaslangsStringe rfl) rfl (by show 2 * 0 + _ ≤ _; exact Nat.le_of_eq rfl) (hb hby at_196) (fun _ _ => ⟨rfl, rfl, (by decide : 6 + 6 ≤ _), (by decide : 12 + 12 ≤ _)⟩)
  dsimp only [Pt.U, Pt.locs, Pt.cells, Pt.slots] at Xx41 hSx41 hgx41 l41 y41 z41 r41 st41 hQ41
  subst l41 y41 z41
  obtain ⟨X41, hS41, hZ41, hown41⟩ := rebS hS38 (Nat.le_refl _) Xx41 hSx41 hgx41 hZ38 hown38
  obtain ⟨x41, t41, kb41, rfl, Nq41, Kq41, gx41, So41⟩ := hQ41
  have c42 : Steps p.tables e below S0 (T41.setTop (mkF m 199 #[.val (.int p0), .val (.int p1), .val (.int p2), .val (.int p3), .val (.int p4), .val (.int la), .val (.int ca), .val (.int cb), .val (.int ma), .val (.int da), .val (.int db), .val (.int lb), .val (.int ea), .val (.int eb), .val (.int mb), .val (.int fa), .val (.int fb), .val (.ref x38), .unset, .unset, .unset, .unset, .unset, .unset, .unset] [(.ref x41)])) := c40.trans (st41)
  have N41 := Fr.app N38 Nq41
  have z41 : n0 ≤ T41.heap.size := Nat.le_trans z38 Kq41.1
  have K41 := K38.trans Kq41 all0
  have R41 := R38.trans r41
  have lt_x41 := So41.1.1.lt
  have lt_t41 := So41.1.2.2.2.1.lt
  have c43 : Steps p.tables e below S0 (T41.setTop (mkF m 207 #[.val (.int p0), .val (.int p1), .val (.int p2), .val (.int p3), .val (.int p4), .val (.int la), .val (.int ca), .val (.int cb), .val (.int ma), .val (.int da), .val (.int db), .val (.int lb), .val (.int ea), .val (.int eb), .val (.int mb), .val (.int fa), .val (.int fb), .val (.ref x38), .val (.ref x41), .unset, .unset, .unset, .unset, .unset, .unset] [(.int eb), (.int ea), (.int lb)])) := c42.trans (by
    show Steps p.tables e below (T41.setTop (mkF m 199 #[.val (.int p0), .val (.int p1), .val (.int p2), .val (.int p3), .val (.int p4), .val (.int la), .val (.int ca), .val (.int cb), .val (.int ma), .val (.int da), .val (.int db), .val (.int lb), .val (.int ea), .val (.int eb), .val (.int mb), .val (.int fa), .val (.int fb), .val (.ref x38), .unset, .unset, .unset, .unset, .unset, .unset, .unset] [(.ref x41)])) _
    refine XS.astore X41.here hx rfl (hb hby at_199) rfl rfl (l' := #[.val (.int p0), .val (.int p1), .val (.int p2), .val (.int p3), .val (.int p4), .val (.int la), .val (.int ca), .val (.int cb), .val (.int ma), .val (.int da), .val (.int db), .val (.int lb), .val (.int ea), .val (.int eb), .val (.int mb), .val (.int fa), .val (.int fb), .val (.ref x38), .val (.ref x41), .unset, .unset, .unset, .unset, .unset, .unset]) rfl ?_
    refine XS.iload X41.here hx rfl (hb hby at_201) rfl ?_
    refine XS.iload X41.here hx rfl (hb hby at_203) rfl ?_
    refine XS.iload X41.here hx rfl (hb hby at_205) rfl ?_
    exact Steps.refl _)
  obtain ⟨_, _, ⟨T44, L44, kk44, nn44⟩, -, Xx44, hSx44, hgx44, ⟨Lc44, hQ44, l44, y44, z44, r44⟩, st44⟩ := callSS X41 hx (y := (⟨"com/example/evenkeel/evenkeel/RouteEqualsPinLaw", "mk", "(III)Ljava/lang/String;"⟩ : MethodName)) hown41 (mvT hZ41 (hw _ (List.mem_of_getElem? (i := 0) rfl))) (mvT hZ41 (hw _ (List.mem_of_getElem? (i := 1) rfl))) (mvT hZ41 (hw _ (List.mem_of_getElem? (i := 2) rfl))) (mvT hZ41 (hw _ (List.mem_of_getElem? (i := 3) rfl))) (by decide) (backOfSH (W := 0) (rmMk l Z a0 hw [] lb ea eb G1 T41.heap n0 z41 h8ea h8eb O2 P5 ((X00.keep Kq38 all0).keep Kq41 all0)) hZ41 (hw _ (List.mem_of_getElem? (i := 3) rfl)) (hw _ (List.mem_of_getElem? (i := 2) rfl)) (by decide) (by decide) hEL R41.1) (g := (mkF m 207 #[.val (.int p0), .val (.int p1), .val (.int p2), .val (.int p3), .val (.int p4), .val (.int la), .val (.int ca), .val (.int cb), .val (.int ma), .val (.int da), .val (.int db), .val (.int lb), .val (.int ea), .val (.int eb), .val (.int mb), .val (.int fa), .val (.int fb), .val (.ref x38), .val (.ref x41), .unset, .unset, .unset, .unset, .unset, .unset] [(.int eb), (.int ea), (.int lb)])) rfl (by rw [hml]; rfl) (argsL := [(.int lb), (.int ea), (.int eb)]) (rest := []) (lenOf pd_oIIIcLjavaslangsStringe rfl) rfl (by show 2 * 0 + _ ≤ _; exact Nat.le_of_eq rfl) (hb hby at_207) (fun _ _ => ⟨rfl, rfl, (by decide : 12 + 6 ≤ _), (by decide : 24 + 12 ≤ _)⟩)
  dsimp only [Pt.U, Pt.locs, Pt.cells, Pt.slots] at Xx44 hSx44 hgx44 l44 y44 z44 r44 st44 hQ44
  subst l44 y44 z44
  obtain ⟨X44, hS44, hZ44, hown44⟩ := rebS hS41 (Nat.le_refl _) Xx44 hSx44 hgx44 hZ41 hown41
  obtain ⟨x44, t44, kb44, rfl, Nq44, Kq44, gx44, So44⟩ := hQ44
  have c45 : Steps p.tables e below S0 (T44.setTop (mkF m 210 #[.val (.int p0), .val (.int p1), .val (.int p2), .val (.int p3), .val (.int p4), .val (.int la), .val (.int ca), .val (.int cb), .val (.int ma), .val (.int da), .val (.int db), .val (.int lb), .val (.int ea), .val (.int eb), .val (.int mb), .val (.int fa), .val (.int fb), .val (.ref x38), .val (.ref x41), .unset, .unset, .unset, .unset, .unset, .unset] [(.ref x44)])) := c43.trans (st44)
  have N44 := Fr.app N41 Nq44
  have z44 : n0 ≤ T44.heap.size := Nat.le_trans z41 Kq44.1
  have K44 := K41.trans Kq44 all0
  have R44 := R41.trans r44
  have lt_x44 := So44.1.1.lt
  have lt_t44 := So44.1.2.2.2.1.lt
  have c46 : Steps p.tables e below S0 (T44.setTop (mkF m 218 #[.val (.int p0), .val (.int p1), .val (.int p2), .val (.int p3), .val (.int p4), .val (.int la), .val (.int ca), .val (.int cb), .val (.int ma), .val (.int da), .val (.int db), .val (.int lb), .val (.int ea), .val (.int eb), .val (.int mb), .val (.int fa), .val (.int fb), .val (.ref x38), .val (.ref x41), .val (.ref x44), .unset, .unset, .unset, .unset, .unset] [(.int fb), (.int fa), (.int mb)])) := c45.trans (by
    show Steps p.tables e below (T44.setTop (mkF m 210 #[.val (.int p0), .val (.int p1), .val (.int p2), .val (.int p3), .val (.int p4), .val (.int la), .val (.int ca), .val (.int cb), .val (.int ma), .val (.int da), .val (.int db), .val (.int lb), .val (.int ea), .val (.int eb), .val (.int mb), .val (.int fa), .val (.int fb), .val (.ref x38), .val (.ref x41), .unset, .unset, .unset, .unset, .unset, .unset] [(.ref x44)])) _
    refine XS.astore X44.here hx rfl (hb hby at_210) rfl rfl (l' := #[.val (.int p0), .val (.int p1), .val (.int p2), .val (.int p3), .val (.int p4), .val (.int la), .val (.int ca), .val (.int cb), .val (.int ma), .val (.int da), .val (.int db), .val (.int lb), .val (.int ea), .val (.int eb), .val (.int mb), .val (.int fa), .val (.int fb), .val (.ref x38), .val (.ref x41), .val (.ref x44), .unset, .unset, .unset, .unset, .unset]) rfl ?_
    refine XS.iload X44.here hx rfl (hb hby at_212) rfl ?_
    refine XS.iload X44.here hx rfl (hb hby at_214) rfl ?_
    refine XS.iload X44.here hx rfl (hb hby at_216) rfl ?_
    exact Steps.refl _)
  obtain ⟨_, _, ⟨T47, L47, kk47, nn47⟩, -, Xx47, hSx47, hgx47, ⟨Lc47, hQ47, l47, y47, z47, r47⟩, st47⟩ := callSS X44 hx (y := (⟨"com/example/evenkeel/evenkeel/RouteEqualsPinLaw", "mk", "(III)Ljava/lang/String;"⟩ : MethodName)) hown44 (mvT hZ44 (hw _ (List.mem_of_getElem? (i := 0) rfl))) (mvT hZ44 (hw _ (List.mem_of_getElem? (i := 1) rfl))) (mvT hZ44 (hw _ (List.mem_of_getElem? (i := 2) rfl))) (mvT hZ44 (hw _ (List.mem_of_getElem? (i := 3) rfl))) (by decide) (backOfSH (W := 0) (rmMk l Z a0 hw [] mb fa fb G1 T44.heap n0 z44 h8fa h8fb O2 P5 (((X00.keep Kq38 all0).keep Kq41 all0).keep Kq44 all0)) hZ44 (hw _ (List.mem_of_getElem? (i := 3) rfl)) (hw _ (List.mem_of_getElem? (i := 2) rfl)) (by decide) (by decide) hEL R44.1) (g := (mkF m 218 #[.val (.int p0), .val (.int p1), .val (.int p2), .val (.int p3), .val (.int p4), .val (.int la), .val (.int ca), .val (.int cb), .val (.int ma), .val (.int da), .val (.int db), .val (.int lb), .val (.int ea), .val (.int eb), .val (.int mb), .val (.int fa), .val (.int fb), .val (.ref x38), .val (.ref x41), .val (.ref x44), .unset, .unset, .unset, .unset, .unset] [(.int fb), (.int fa), (.int mb)])) rfl (by rw [hml]; rfl) (argsL := [(.int mb), (.int fa), (.int fb)]) (rest := []) (lenOf pd_oIIIcLjavaslangsStringe rfl) rfl (by show 2 * 0 + _ ≤ _; exact Nat.le_of_eq rfl) (hb hby at_218) (fun _ _ => ⟨rfl, rfl, (by decide : 18 + 6 ≤ _), (by decide : 36 + 12 ≤ _)⟩)
  dsimp only [Pt.U, Pt.locs, Pt.cells, Pt.slots] at Xx47 hSx47 hgx47 l47 y47 z47 r47 st47 hQ47
  subst l47 y47 z47
  obtain ⟨X47, hS47, hZ47, hown47⟩ := rebS hS44 (Nat.le_refl _) Xx47 hSx47 hgx47 hZ44 hown44
  obtain ⟨x47, t47, kb47, rfl, Nq47, Kq47, gx47, So47⟩ := hQ47
  have c48 : Steps p.tables e below S0 (T47.setTop (mkF m 221 #[.val (.int p0), .val (.int p1), .val (.int p2), .val (.int p3), .val (.int p4), .val (.int la), .val (.int ca), .val (.int cb), .val (.int ma), .val (.int da), .val (.int db), .val (.int lb), .val (.int ea), .val (.int eb), .val (.int mb), .val (.int fa), .val (.int fb), .val (.ref x38), .val (.ref x41), .val (.ref x44), .unset, .unset, .unset, .unset, .unset] [(.ref x47)])) := c46.trans (st47)
  have N47 := Fr.app N44 Nq47
  have z47 : n0 ≤ T47.heap.size := Nat.le_trans z44 Kq47.1
  have K47 := K44.trans Kq47 all0
  have R47 := R44.trans r47
  have lt_x47 := So47.1.1.lt
  have lt_t47 := So47.1.2.2.2.1.lt
  have c49 : Steps p.tables e below S0 (T47.setTop (mkF m 223 #[.val (.int p0), .val (.int p1), .val (.int p2), .val (.int p3), .val (.int p4), .val (.int la), .val (.int ca), .val (.int cb), .val (.int ma), .val (.int da), .val (.int db), .val (.int lb), .val (.int ea), .val (.int eb), .val (.int mb), .val (.int fa), .val (.int fb), .val (.ref x38), .val (.ref x41), .val (.ref x44), .val (.ref x47), .unset, .unset, .unset, .unset] [])) := c48.trans (by
    show Steps p.tables e below (T47.setTop (mkF m 221 #[.val (.int p0), .val (.int p1), .val (.int p2), .val (.int p3), .val (.int p4), .val (.int la), .val (.int ca), .val (.int cb), .val (.int ma), .val (.int da), .val (.int db), .val (.int lb), .val (.int ea), .val (.int eb), .val (.int mb), .val (.int fa), .val (.int fb), .val (.ref x38), .val (.ref x41), .val (.ref x44), .unset, .unset, .unset, .unset, .unset] [(.ref x47)])) _
    refine XS.astore X47.here hx rfl (hb hby at_221) rfl rfl (l' := #[.val (.int p0), .val (.int p1), .val (.int p2), .val (.int p3), .val (.int p4), .val (.int la), .val (.int ca), .val (.int cb), .val (.int ma), .val (.int da), .val (.int db), .val (.int lb), .val (.int ea), .val (.int eb), .val (.int mb), .val (.int fa), .val (.int fb), .val (.ref x38), .val (.ref x41), .val (.ref x44), .val (.ref x47), .unset, .unset, .unset, .unset]) rfl ?_
    exact Steps.refl _)
  have Rz50 : CHr Z EL0 s.vm h0 T47.vm T47.heap := own_CHr0 K47.1
  have hEL : EW Z a0 EL0 := EW.nil
  obtain ⟨T51, h51, X51, e51, E51, A51, D51, -, st51⟩ := newO X47 hx hZ47 hown47 (hw _ (List.mem_of_getElem? (i := 37) rfl)) (hw _ (List.mem_of_getElem? (i := 38) rfl)) (hw _ (List.mem_of_getElem? (i := 39) rfl)) rfl (g := (mkF m 223 #[.val (.int p0), .val (.int p1), .val (.int p2), .val (.int p3), .val (.int p4), .val (.int la), .val (.int ca), .val (.int cb), .val (.int ma), .val (.int da), .val (.int db), .val (.int lb), .val (.int ea), .val (.int eb), .val (.int mb), .val (.int fa), .val (.int fb), .val (.ref x38), .val (.ref x41), .val (.ref x44), .val (.ref x47), .unset, .unset, .unset, .unset] [])) rfl (hb hby at_223) (by decide) (by decide)
  obtain ⟨b51, g51⟩ : ∃ z, z = T47.heap.size := ⟨_, rfl⟩
  rw [← g51] at A51 D51 st51
  have sn51 : Safe Z EL0 T47.vm T47.heap b51 := Safe.new (Nat.le_of_eq g51.symm)
  have c52 : Steps p.tables e below S0 (T51.setTop (mkF m 226 #[.val (.int p0), .val (.int p1), .val (.int p2), .val (.int p3), .val (.int p4), .val (.int la), .val (.int ca), .val (.int cb), .val (.int ma), .val (.int da), .val (.int db), .val (.int lb), .val (.int ea), .val (.int eb), .val (.int mb), .val (.int fa), .val (.int fb), .val (.ref x38), .val (.ref x41), .val (.ref x44), .val (.ref x47), .unset, .unset, .unset, .unset] [(.ref b51)])) := c49.trans (st51 _ (Steps.refl _))
  have z51 : n0 ≤ h51.size := Nat.le_trans z47 E51.1
  have K51 := K47.ext E51
  have r51 : CHr Z EL0 T47.vm T47.heap T47.vm h51 := CHr.ext E51 Rz50.1
  have R51 := Rz50.trans r51
  have lt_b51 : b51 < h51.size := A51.lt
  have sf51 : Safe Z EL0 T47.vm h51 b51 := Safe.ext E51 Rz50.1 sn51
  have F51_service : Fld Z h51 b51 "com/example/evenkeel/evenkeel/Route" "service" "Ljava/lang/String;" .null := D51 (Or.inr (hw _ (List.mem_of_getElem? (i := 51) rfl))) (ty := (.object "java/lang/String")) (by decide)
  have F51_method : Fld Z h51 b51 "com/example/evenkeel/evenkeel/Route" "method" "Ljava/lang/String;" .null := D51 (Or.inr (hw _ (List.mem_of_getElem? (i := 54) rfl))) (ty := (.object "java/lang/String")) (by decide)
  have F51_hash : Fld Z h51 b51 "com/example/evenkeel/evenkeel/Route" "hash" "I" (.int (0 : Int32)) := D51 (Or.inr (hw _ (List.mem_of_getElem? (i := 74) rfl))) (ty := .int) (by decide)
  have c53 : Steps p.tables e below S0 (T51.setTop (mkF m 231 #[.val (.int p0), .val (.int p1), .val (.int p2), .val (.int p3), .val (.int p4), .val (.int la), .val (.int ca), .val (.int cb), .val (.int ma), .val (.int da), .val (.int db), .val (.int lb), .val (.int ea), .val (.int eb), .val (.int mb), .val (.int fa), .val (.int fb), .val (.ref x38), .val (.ref x41), .val (.ref x44), .val (.ref x47), .unset, .unset, .unset, .unset] [(.ref x41), (.ref x38), (.ref b51), (.ref b51)])) := c52.trans (by
    show Steps p.tables e below (T51.setTop (mkF m 226 #[.val (.int p0), .val (.int p1), .val (.int p2), .val (.int p3), .val (.int p4), .val (.int la), .val (.int ca), .val (.int cb), .val (.int ma), .val (.int da), .val (.int db), .val (.int lb), .val (.int ea), .val (.int eb), .val (.int mb), .val (.int fa), .val (.int fb), .val (.ref x38), .val (.ref x41), .val (.ref x44), .val (.ref x47), .unset, .unset, .unset, .unset] [(.ref b51)])) _
    refine XS.dup X51.here hx rfl (hb hby at_226) rfl rfl ?_
    refine XS.aload X51.here hx rfl (hb hby at_227) rfl rfl ?_
    refine XS.aload X51.here hx rfl (hb hby at_229) rfl rfl ?_
    exact Steps.refl _)
  obtain ⟨_, _, ⟨T54, L54, kk54, nn54⟩, -, Xx54, hSx54, hgx54, ⟨Lc54, hQ54, l54, y54, z54, r54⟩, st54⟩ := X51.specialBackS hx (y := (⟨"com/example/evenkeel/evenkeel/Route", "<init>", "(Ljava/lang/String;Ljava/lang/String;)V"⟩ : MethodName)) rfl hown47 (mvT hZ47 (hw _ (List.mem_of_getElem? (i := 40) rfl))) (mvT hZ47 (hw _ (List.mem_of_getElem? (i := 41) rfl))) (mvT hZ47 (hw _ (List.mem_of_getElem? (i := 42) rfl))) (by decide) (backOfSH (W := 1) (rmRt l Z a0 hw [] b51 x38 t38 x41 t41 kb38 kb41 (own_mk la ca cb) (own_mk ma da db) G1 h51 n0 z51 (Nat.le_trans Z0 (Nat.le_trans K47.1 (Nat.le_of_eq g51.symm))) (Nat.le_trans Z0 (Nat.le_trans K0.1 gx38)) (Nat.le_trans Z0 (Nat.le_trans K38.1 gx41)) A51 F51_service F51_method F51_hash ⟨⟨((((So38.1.1.keep Kq41).keep Kq44).keep Kq47).ext E51), ((((So38.1.2.1.keep Kq41 nin0).keep Kq44 nin0).keep Kq47 nin0).ext E51), ((((So38.1.2.2.1.keep Kq41 nin0).keep Kq44 nin0).keep Kq47 nin0).ext E51), ((((So38.1.2.2.2.1.keep Kq41 nin0).keep Kq44 nin0).keep Kq47 nin0).ext E51), So38.1.2.2.2.2.1, So38.1.2.2.2.2.2⟩, ((((So38.2.1.keep Kq41 nin0).keep Kq44 nin0).keep Kq47 nin0).ext E51), ((((So38.2.2.1.keep Kq41 nin0).keep Kq44 nin0).keep Kq47 nin0).ext E51), So38.2.2.2⟩ ⟨⟨(((So41.1.1.keep Kq44).keep Kq47).ext E51), (((So41.1.2.1.keep Kq44 nin0).keep Kq47 nin0).ext E51), (((So41.1.2.2.1.keep Kq44 nin0).keep Kq47 nin0).ext E51), (((So41.1.2.2.2.1.keep Kq44 nin0).keep Kq47 nin0).ext E51), So41.1.2.2.2.2.1, So41.1.2.2.2.2.2⟩, (((So41.2.1.keep Kq44 nin0).keep Kq47 nin0).ext E51), (((So41.2.2.1.keep Kq44 nin0).keep Kq47 nin0).ext E51), So41.2.2.2⟩ (Nat.ne_of_lt (Nat.lt_of_lt_of_le lt_x38 gx41)) O2 P5 (((((X00.keep Kq38 all0).keep Kq41 all0).keep Kq44 all0).keep Kq47 all0).ext E51)) hZ47 (hw _ (List.mem_of_getElem? (i := 42) rfl)) (hw _ (List.mem_of_getElem? (i := 39) rfl)) (by decide) (by decide) hEL R51.1) (g := (mkF m 231 #[.val (.int p0), .val (.int p1), .val (.int p2), .val (.int p3), .val (.int p4), .val (.int la), .val (.int ca), .val (.int cb), .val (.int ma), .val (.int da), .val (.int db), .val (.int lb), .val (.int ea), .val (.int eb), .val (.int mb), .val (.int fa), .val (.int fb), .val (.ref x38), .val (.ref x41), .val (.ref x44), .val (.ref x47), .unset, .unset, .unset, .unset] [(.ref x41), (.ref x38), (.ref b51), (.ref b51)])) rfl (by rw [hml]; rfl) (Steps.refl _) (a := b51) (argsL := [(.ref x38), (.ref x41)]) (rest := [(.ref b51)]) (lenOf pd_oLjavaslangsStringeLjavaslangsStringecV rfl) rfl (by show 2 * 0 + _ ≤ _; exact Nat.le_of_eq rfl) (hb hby at_231) (fun _ _ => ⟨rfl, e51, (by decide : 25 + 4 ≤ _), (by decide : 51 + 60 ≤ _)⟩)
  dsimp only [Pt.U, Pt.locs, Pt.cells, Pt.slots] at Xx54 hSx54 hgx54 l54 y54 z54 r54 st54 hQ54
  subst l54 y54 z54
  obtain ⟨X54, hS54, hZ54, hown54⟩ := rebS hS47 (Nat.le_trans (Nat.le_refl _) E51.1) Xx54 hSx54 (e51 ▸ hgx54) hZ47 hown47
  obtain ⟨rfl, Nq54, Kq54, Ei54, Fa54, Fb54, Fh54, Ss54, Sm54⟩ := hQ54
  have c55 : Steps p.tables e below S0 (T54.setTop (mkF m 234 #[.val (.int p0), .val (.int p1), .val (.int p2), .val (.int p3), .val (.int p4), .val (.int la), .val (.int ca), .val (.int cb), .val (.int ma), .val (.int da), .val (.int db), .val (.int lb), .val (.int ea), .val (.int eb), .val (.int mb), .val (.int fa), .val (.int fb), .val (.ref x38), .val (.ref x41), .val (.ref x44), .val (.ref x47), .unset, .unset, .unset, .unset] [(.ref b51)])) := c53.trans (st54)
  have N54 := Fr.app N47 Nq54
  have z54 : n0 ≤ T54.heap.size := Nat.le_trans z51 Kq54.1
  have K54 := K51.trans Kq54 (allS (Or.inr (Nat.le_trans K47.1 (Nat.le_of_eq g51.symm))) (allS (Or.inr (Nat.le_trans K0.1 gx38)) (allS (Or.inr (Nat.le_trans K38.1 gx41)) all0)))
  have R54 := R51.trans r54
  have c56 : Steps p.tables e below S0 (T54.setTop (mkF m 236 #[.val (.int p0), .val (.int p1), .val (.int p2), .val (.int p3), .val (.int p4), .val (.int la), .val (.int ca), .val (.int cb), .val (.int ma), .val (.int da), .val (.int db), .val (.int lb), .val (.int ea), .val (.int eb), .val (.int mb), .val (.int fa), .val (.int fb), .val (.ref x38), .val (.ref x41), .val (.ref x44), .val (.ref x47), .val (.ref b51), .unset, .unset, .unset] [])) := c55.trans (by
    show Steps p.tables e below (T54.setTop (mkF m 234 #[.val (.int p0), .val (.int p1), .val (.int p2), .val (.int p3), .val (.int p4), .val (.int la), .val (.int ca), .val (.int cb), .val (.int ma), .val (.int da), .val (.int db), .val (.int lb), .val (.int ea), .val (.int eb), .val (.int mb), .val (.int fa), .val (.int fb), .val (.ref x38), .val (.ref x41), .val (.ref x44), .val (.ref x47), .unset, .unset, .unset, .unset] [(.ref b51)])) _
    refine XS.astore X54.here hx rfl (hb hby at_234) rfl rfl (l' := #[.val (.int p0), .val (.int p1), .val (.int p2), .val (.int p3), .val (.int p4), .val (.int la), .val (.int ca), .val (.int cb), .val (.int ma), .val (.int da), .val (.int db), .val (.int lb), .val (.int ea), .val (.int eb), .val (.int mb), .val (.int fa), .val (.int fb), .val (.ref x38), .val (.ref x41), .val (.ref x44), .val (.ref x47), .val (.ref b51), .unset, .unset, .unset]) rfl ?_
    exact Steps.refl _)
  obtain ⟨T57, h57, X57, e57, E57, A57, D57, -, st57⟩ := newO X54 hx hZ54 hown54 (hw _ (List.mem_of_getElem? (i := 37) rfl)) (hw _ (List.mem_of_getElem? (i := 38) rfl)) (hw _ (List.mem_of_getElem? (i := 39) rfl)) rfl (g := (mkF m 236 #[.val (.int p0), .val (.int p1), .val (.int p2), .val (.int p3), .val (.int p4), .val (.int la), .val (.int ca), .val (.int cb), .val (.int ma), .val (.int da), .val (.int db), .val (.int lb), .val (.int ea), .val (.int eb), .val (.int mb), .val (.int fa), .val (.int fb), .val (.ref x38), .val (.ref x41), .val (.ref x44), .val (.ref x47), .val (.ref b51), .unset, .unset, .unset] [])) rfl (hb hby at_236) (by decide) (by decide)
  obtain ⟨b57, g57⟩ : ∃ z, z = T54.heap.size := ⟨_, rfl⟩
  rw [← g57] at A57 D57 st57
  have sn57 : Safe Z EL0 T54.vm T54.heap b57 := Safe.new (Nat.le_of_eq g57.symm)
  have c58 : Steps p.tables e below S0 (T57.setTop (mkF m 239 #[.val (.int p0), .val (.int p1), .val (.int p2), .val (.int p3), .val (.int p4), .val (.int la), .val (.int ca), .val (.int cb), .val (.int ma), .val (.int da), .val (.int db), .val (.int lb), .val (.int ea), .val (.int eb), .val (.int mb), .val (.int fa), .val (.int fb), .val (.ref x38), .val (.ref x41), .val (.ref x44), .val (.ref x47), .val (.ref b51), .unset, .unset, .unset] [(.ref b57)])) := c56.trans (st57 _ (Steps.refl _))
  have z57 : n0 ≤ h57.size := Nat.le_trans z54 E57.1
  have K57 := K54.ext E57
  have r57 : CHr Z EL0 T54.vm T54.heap T54.vm h57 := CHr.ext E57 R54.1
  have R57 := R54.trans r57
  have lt_b57 : b57 < h57.size := A57.lt
  have sf57 : Safe Z EL0 T54.vm h57 b57 := Safe.ext E57 R54.1 sn57
  have F57_service : Fld Z h57 b57 "com/example/evenkeel/evenkeel/Route" "service" "Ljava/lang/String;" .null := D57 (Or.inr (hw _ (List.mem_of_getElem? (i := 51) rfl))) (ty := (.object "java/lang/String")) (by decide)
  have F57_method : Fld Z h57 b57 "com/example/evenkeel/evenkeel/Route" "method" "Ljava/lang/String;" .null := D57 (Or.inr (hw _ (List.mem_of_getElem? (i := 54) rfl))) (ty := (.object "java/lang/String")) (by decide)
  have F57_hash : Fld Z h57 b57 "com/example/evenkeel/evenkeel/Route" "hash" "I" (.int (0 : Int32)) := D57 (Or.inr (hw _ (List.mem_of_getElem? (i := 74) rfl))) (ty := .int) (by decide)
  have c59 : Steps p.tables e below S0 (T57.setTop (mkF m 244 #[.val (.int p0), .val (.int p1), .val (.int p2), .val (.int p3), .val (.int p4), .val (.int la), .val (.int ca), .val (.int cb), .val (.int ma), .val (.int da), .val (.int db), .val (.int lb), .val (.int ea), .val (.int eb), .val (.int mb), .val (.int fa), .val (.int fb), .val (.ref x38), .val (.ref x41), .val (.ref x44), .val (.ref x47), .val (.ref b51), .unset, .unset, .unset] [(.ref x47), (.ref x44), (.ref b57), (.ref b57)])) := c58.trans (by
    show Steps p.tables e below (T57.setTop (mkF m 239 #[.val (.int p0), .val (.int p1), .val (.int p2), .val (.int p3), .val (.int p4), .val (.int la), .val (.int ca), .val (.int cb), .val (.int ma), .val (.int da), .val (.int db), .val (.int lb), .val (.int ea), .val (.int eb), .val (.int mb), .val (.int fa), .val (.int fb), .val (.ref x38), .val (.ref x41), .val (.ref x44), .val (.ref x47), .val (.ref b51), .unset, .unset, .unset] [(.ref b57)])) _
    refine XS.dup X57.here hx rfl (hb hby at_239) rfl rfl ?_
    refine XS.aload X57.here hx rfl (hb hby at_240) rfl rfl ?_
    refine XS.aload X57.here hx rfl (hb hby at_242) rfl rfl ?_
    exact Steps.refl _)
  obtain ⟨_, _, ⟨T60, L60, kk60, nn60⟩, -, Xx60, hSx60, hgx60, ⟨Lc60, hQ60, l60, y60, z60, r60⟩, st60⟩ := X57.specialBackS hx (y := (⟨"com/example/evenkeel/evenkeel/Route", "<init>", "(Ljava/lang/String;Ljava/lang/String;)V"⟩ : MethodName)) rfl hown54 (mvT hZ54 (hw _ (List.mem_of_getElem? (i := 40) rfl))) (mvT hZ54 (hw _ (List.mem_of_getElem? (i := 41) rfl))) (mvT hZ54 (hw _ (List.mem_of_getElem? (i := 42) rfl))) (by decide) (backOfSH (W := 1) (rmRt l Z a0 hw [] b57 x44 t44 x47 t47 kb44 kb47 (own_mk lb ea eb) (own_mk mb fa fb) G1 h57 n0 z57 (Nat.le_trans Z0 (Nat.le_trans K54.1 (Nat.le_of_eq g57.symm))) (Nat.le_trans Z0 (Nat.le_trans K41.1 gx44)) (Nat.le_trans Z0 (Nat.le_trans K44.1 gx47)) A57 F57_service F57_method F57_hash ⟨⟨((((So44.1.1.keep Kq47).ext E51).keep Kq54).ext E57), ((((So44.1.2.1.keep Kq47 nin0).ext E51).keep Kq54 (ninS (Nat.ne_of_lt (Nat.lt_of_lt_of_le (Nat.lt_of_lt_of_le lt_x44 Kq47.1) (Nat.le_of_eq g51.symm))) (ninS (Ne.symm (Nat.ne_of_lt (Nat.lt_of_lt_of_le (Nat.lt_of_lt_of_le lt_x38 Kq41.1) gx44))) (ninS (Ne.symm (Nat.ne_of_lt (Nat.lt_of_lt_of_le lt_x41 gx44))) nin0)))).ext E57), ((((So44.1.2.2.1.keep Kq47 nin0).ext E51).keep Kq54 (ninS (Nat.ne_of_lt (Nat.lt_of_lt_of_le (Nat.lt_of_lt_of_le lt_x44 Kq47.1) (Nat.le_of_eq g51.symm))) (ninS (Ne.symm (Nat.ne_of_lt (Nat.lt_of_lt_of_le (Nat.lt_of_lt_of_le lt_x38 Kq41.1) gx44))) (ninS (Ne.symm (Nat.ne_of_lt (Nat.lt_of_lt_of_le lt_x41 gx44))) nin0)))).ext E57), ((((So44.1.2.2.2.1.keep Kq47 nin0).ext E51).keep Kq54 (ninS (Nat.ne_of_lt (Nat.lt_of_lt_of_le (Nat.lt_of_lt_of_le lt_t44 Kq47.1) (Nat.le_of_eq g51.symm))) (ninS (Ne.symm (Exa.neArv ((So38.1.1.keep Kq41).keep Kq44) So44.1.2.2.2.1 (hw _ (List.mem_of_getElem? (i := 5) rfl)))) (ninS (Ne.symm (Exa.neArv (So41.1.1.keep Kq44) So44.1.2.2.2.1 (hw _ (List.mem_of_getElem? (i := 5) rfl)))) nin0)))).ext E57), So44.1.2.2.2.2.1, So44.1.2.2.2.2.2⟩, ((((So44.2.1.keep Kq47 nin0).ext E51).keep Kq54 (ninS (Nat.ne_of_lt (Nat.lt_of_lt_of_le (Nat.lt_of_lt_of_le lt_x44 Kq47.1) (Nat.le_of_eq g51.symm))) (ninS (Ne.symm (Nat.ne_of_lt (Nat.lt_of_lt_of_le (Nat.lt_of_lt_of_le lt_x38 Kq41.1) gx44))) (ninS (Ne.symm (Nat.ne_of_lt (Nat.lt_of_lt_of_le lt_x41 gx44))) nin0)))).ext E57), ((((So44.2.2.1.keep Kq47 nin0).ext E51).keep Kq54 (ninS (Nat.ne_of_lt (Nat.lt_of_lt_of_le (Nat.lt_of_lt_of_le lt_x44 Kq47.1) (Nat.le_of_eq g51.symm))) (ninS (Ne.symm (Nat.ne_of_lt (Nat.lt_of_lt_of_le (Nat.lt_of_lt_of_le lt_x38 Kq41.1) gx44))) (ninS (Ne.symm (Nat.ne_of_lt (Nat.lt_of_lt_of_le lt_x41 gx44))) nin0)))).ext E57), So44.2.2.2⟩ ⟨⟨(((So47.1.1.ext E51).keep Kq54).ext E57), (((So47.1.2.1.ext E51).keep Kq54 (ninS (Nat.ne_of_lt (Nat.lt_of_lt_of_le lt_x47 (Nat.le_of_eq g51.symm))) (ninS (Ne.symm (Nat.ne_of_lt (Nat.lt_of_lt_of_le (Nat.lt_of_lt_of_le lt_x38 (Nat.le_trans Kq41.1 Kq44.1)) gx47))) (ninS (Ne.symm (Nat.ne_of_lt (Nat.lt_of_lt_of_le (Nat.lt_of_lt_of_le lt_x41 Kq44.1) gx47))) nin0)))).ext E57), (((So47.1.2.2.1.ext E51).keep Kq54 (ninS (Nat.ne_of_lt (Nat.lt_of_lt_of_le lt_x47 (Nat.le_of_eq g51.symm))) (ninS (Ne.symm (Nat.ne_of_lt (Nat.lt_of_lt_of_le (Nat.lt_of_lt_of_le lt_x38 (Nat.le_trans Kq41.1 Kq44.1)) gx47))) (ninS (Ne.symm (Nat.ne_of_lt (Nat.lt_of_lt_of_le (Nat.lt_of_lt_of_le lt_x41 Kq44.1) gx47))) nin0)))).ext E57), (((So47.1.2.2.2.1.ext E51).keep Kq54 (ninS (Nat.ne_of_lt (Nat.lt_of_lt_of_le lt_t47 (Nat.le_of_eq g51.symm))) (ninS (Ne.symm (Exa.neArv (((So38.1.1.keep Kq41).keep Kq44).keep Kq47) So47.1.2.2.2.1 (hw _ (List.mem_of_getElem? (i := 5) rfl)))) (ninS (Ne.symm (Exa.neArv ((So41.1.1.keep Kq44).keep Kq47) So47.1.2.2.2.1 (hw _ (List.mem_of_getElem? (i := 5) rfl)))) nin0)))).ext E57), So47.1.2.2.2.2.1, So47.1.2.2.2.2.2⟩, (((So47.2.1.ext E51).keep Kq54 (ninS (Nat.ne_of_lt (Nat.lt_of_lt_of_le lt_x47 (Nat.le_of_eq g51.symm))) (ninS (Ne.symm (Nat.ne_of_lt (Nat.lt_of_lt_of_le (Nat.lt_of_lt_of_le lt_x38 (Nat.le_trans Kq41.1 Kq44.1)) gx47))) (ninS (Ne.symm (Nat.ne_of_lt (Nat.lt_of_lt_of_le (Nat.lt_of_lt_of_le lt_x41 Kq44.1) gx47))) nin0)))).ext E57), (((So47.2.2.1.ext E51).keep Kq54 (ninS (Nat.ne_of_lt (Nat.lt_of_lt_of_le lt_x47 (Nat.le_of_eq g51.symm))) (ninS (Ne.symm (Nat.ne_of_lt (Nat.lt_of_lt_of_le (Nat.lt_of_lt_of_le lt_x38 (Nat.le_trans Kq41.1 Kq44.1)) gx47))) (ninS (Ne.symm (Nat.ne_of_lt (Nat.lt_of_lt_of_le (Nat.lt_of_lt_of_le lt_x41 Kq44.1) gx47))) nin0)))).ext E57), So47.2.2.2⟩ (Nat.ne_of_lt (Nat.lt_of_lt_of_le lt_x44 gx47)) O2 P5 (((((((X00.keep Kq38 all0).keep Kq41 all0).keep Kq44 all0).keep Kq47 all0).ext E51).keep Kq54 (allS (Nat.le_trans Z0 (Nat.le_trans K47.1 (Nat.le_of_eq g51.symm))) (allS (Nat.le_trans Z0 (Nat.le_trans K0.1 gx38)) (allS (Nat.le_trans Z0 (Nat.le_trans K38.1 gx41)) all0)))).ext E57)) hZ54 (hw _ (List.mem_of_getElem? (i := 42) rfl)) (hw _ (List.mem_of_getElem? (i := 39) rfl)) (by decide) (by decide) hEL R57.1) (g := (mkF m 244 #[.val (.int p0), .val (.int p1), .val (.int p2), .val (.int p3), .val (.int p4), .val (.int la), .val (.int ca), .val (.int cb), .val (.int ma), .val (.int da), .val (.int db), .val (.int lb), .val (.int ea), .val (.int eb), .val (.int mb), .val (.int fa), .val (.int fb), .val (.ref x38), .val (.ref x41), .val (.ref x44), .val (.ref x47), .val (.ref b51), .unset, .unset, .unset] [(.ref x47), (.ref x44), (.ref b57), (.ref b57)])) rfl (by rw [hml]; rfl) (Steps.refl _) (a := b57) (argsL := [(.ref x44), (.ref x47)]) (rest := [(.ref b57)]) (lenOf pd_oLjavaslangsStringeLjavaslangsStringecV rfl) rfl (by show 2 * 0 + _ ≤ _; exact Nat.le_of_eq rfl) (hb hby at_244) (fun _ _ => ⟨rfl, e57, (by decide : 30 + 4 ≤ _), (by decide : 114 + 60 ≤ _)⟩)
  dsimp only [Pt.U, Pt.locs, Pt.cells, Pt.slots] at Xx60 hSx60 hgx60 l60 y60 z60 r60 st60 hQ60
  subst l60 y60 z60
  obtain ⟨X60, hS60, hZ60, hown60⟩ := rebS hS54 (Nat.le_trans (Nat.le_refl _) E57.1) Xx60 hSx60 (e57 ▸ hgx60) hZ54 hown54
  obtain ⟨rfl, Nq60, Kq60, Ei60, Fa60, Fb60, Fh60, Ss60, Sm60⟩ := hQ60
  have c61 : Steps p.tables e below S0 (T60.setTop (mkF m 247 #[.val (.int p0), .val (.int p1), .val (.int p2), .val (.int p3), .val (.int p4), .val (.int la), .val (.int ca), .val (.int cb), .val (.int ma), .val (.int da), .val (.int db), .val (.int lb), .val (.int ea), .val (.int eb), .val (.int mb), .val (.int fa), .val (.int fb), .val (.ref x38), .val (.ref x41), .val (.ref x44), .val (.ref x47), .val (.ref b51), .unset, .unset, .unset] [(.ref b57)])) := c59.trans (st60)
  have N60 := Fr.app N54 Nq60
  have z60 : n0 ≤ T60.heap.size := Nat.le_trans z57 Kq60.1
  have K60 := K57.trans Kq60 (allS (Or.inr (Nat.le_trans K54.1 (Nat.le_of_eq g57.symm))) (allS (Or.inr (Nat.le_trans K41.1 gx44)) (allS (Or.inr (Nat.le_trans K44.1 gx47)) all0)))
  have R60 := R57.trans r60
  have c62 : Steps p.tables e below S0 (T60.setTop (mkF m 258 #[.val (.int p0), .val (.int p1), .val (.int p2), .val (.int p3), .val (.int p4), .val (.int la), .val (.int ca), .val (.int cb), .val (.int ma), .val (.int da), .val (.int db), .val (.int lb), .val (.int ea), .val (.int eb), .val (.int mb), .val (.int fa), .val (.int fb), .val (.ref x38), .val (.ref x41), .val (.ref x44), .val (.ref x47), .val (.ref b51), .val (.ref b57), .val (.int (((p4.toUInt32 >>> ((6 : Int32) &&& 31).toUInt32).toInt32) &&& (3 : Int32))), .unset] [])) := c61.trans (by
    show Steps p.tables e below (T60.setTop (mkF m 247 #[.val (.int p0), .val (.int p1), .val (.int p2), .val (.int p3), .val (.int p4), .val (.int la), .val (.int ca), .val (.int cb), .val (.int ma), .val (.int da), .val (.int db), .val (.int lb), .val (.int ea), .val (.int eb), .val (.int mb), .val (.int fa), .val (.int fb), .val (.ref x38), .val (.ref x41), .val (.ref x44), .val (.ref x47), .val (.ref b51), .unset, .unset, .unset] [(.ref b57)])) _
    refine XS.astore X60.here hx rfl (hb hby at_247) rfl rfl (l' := #[.val (.int p0), .val (.int p1), .val (.int p2), .val (.int p3), .val (.int p4), .val (.int la), .val (.int ca), .val (.int cb), .val (.int ma), .val (.int da), .val (.int db), .val (.int lb), .val (.int ea), .val (.int eb), .val (.int mb), .val (.int fa), .val (.int fb), .val (.ref x38), .val (.ref x41), .val (.ref x44), .val (.ref x47), .val (.ref b51), .val (.ref b57), .unset, .unset]) rfl ?_
    refine XS.iload X60.here hx rfl (hb hby at_249) rfl ?_
    refine XS.bipush X60.here hx rfl (hb hby at_251) ?_
    refine XS.iushr X60.here hx rfl (hb hby at_253) rfl ?_
    show Steps p.tables e below (T60.setTop (mkF m 254 #[.val (.int p0), .val (.int p1), .val (.int p2), .val (.int p3), .val (.int p4), .val (.int la), .val (.int ca), .val (.int cb), .val (.int ma), .val (.int da), .val (.int db), .val (.int lb), .val (.int ea), .val (.int eb), .val (.int mb), .val (.int fa), .val (.int fb), .val (.ref x38), .val (.ref x41), .val (.ref x44), .val (.ref x47), .val (.ref b51), .val (.ref b57), .unset, .unset] [(.int ((p4.toUInt32 >>> ((6 : Int32) &&& 31).toUInt32).toInt32))])) _
    refine XS.iconst X60.here hx rfl (hb hby at_254) ?_
    refine XS.iand X60.here hx rfl (hb hby at_255) rfl ?_
    refine XS.istore X60.here hx rfl (hb hby at_256) rfl (l' := #[.val (.int p0), .val (.int p1), .val (.int p2), .val (.int p3), .val (.int p4), .val (.int la), .val (.int ca), .val (.int cb), .val (.int ma), .val (.int da), .val (.int db), .val (.int lb), .val (.int ea), .val (.int eb), .val (.int mb), .val (.int fa), .val (.int fb), .val (.ref x38), .val (.ref x41), .val (.ref x44), .val (.ref x47), .val (.ref b51), .val (.ref b57), .val (.int (((p4.toUInt32 >>> ((6 : Int32) &&& 31).toUInt32).toInt32) &&& (3 : Int32))), .unset]) rfl ?_
    exact Steps.refl _)
  obtain ⟨kd, hkd, c63⟩ : ∃ z : Int32, z = (((p4.toUInt32 >>> ((6 : Int32) &&& 31).toUInt32).toInt32) &&& (3 : Int32)) ∧ Steps p.tables e below S0 (T60.setTop (mkF m 258 #[.val (.int p0), .val (.int p1), .val (.int p2), .val (.int p3), .val (.int p4), .val (.int la), .val (.int ca), .val (.int cb), .val (.int ma), .val (.int da), .val (.int db), .val (.int lb), .val (.int ea), .val (.int eb), .val (.int mb), .val (.int fa), .val (.int fb), .val (.ref x38), .val (.ref x41), .val (.ref x44), .val (.ref x47), .val (.ref b51), .val (.ref b57), .val (.int z), .unset] [])) := ⟨_, rfl, c62⟩
  have c64 : Steps p.tables e below S0 (T60.setTop (mkF m 261 #[.val (.int p0), .val (.int p1), .val (.int p2), .val (.int p3), .val (.int p4), .val (.int la), .val (.int ca), .val (.int cb), .val (.int ma), .val (.int da), .val (.int db), .val (.int lb), .val (.int ea), .val (.int eb), .val (.int mb), .val (.int fa), .val (.int fb), .val (.ref x38), .val (.ref x41), .val (.ref x44), .val (.ref x47), .val (.ref b51), .val (.ref b57), .val (.int kd), .unset] [(.int (1 : Int32)), (.int kd)])) := c63.trans (by
    show Steps p.tables e below (T60.setTop (mkF m 258 #[.val (.int p0), .val (.int p1), .val (.int p2), .val (.int p3), .val (.int p4), .val (.int la), .val (.int ca), .val (.int cb), .val (.int ma), .val (.int da), .val (.int db), .val (.int lb), .val (.int ea), .val (.int eb), .val (.int mb), .val (.int fa), .val (.int fb), .val (.ref x38), .val (.ref x41), .val (.ref x44), .val (.ref x47), .val (.ref b51), .val (.ref b57), .val (.int kd), .unset] [])) _
    refine XS.iload X60.here hx rfl (hb hby at_258) rfl ?_
    refine XS.iconst X60.here hx rfl (hb hby at_260) ?_
    exact Steps.refl _)
  by_cases hq65 : kd = (1 : Int32)
  · have c66 : Steps p.tables e below S0 (T60.setTop (mkF m 267 #[.val (.int p0), .val (.int p1), .val (.int p2), .val (.int p3), .val (.int p4), .val (.int la), .val (.int ca), .val (.int cb), .val (.int ma), .val (.int da), .val (.int db), .val (.int lb), .val (.int ea), .val (.int eb), .val (.int mb), .val (.int fa), .val (.int fb), .val (.ref x38), .val (.ref x41), .val (.ref x44), .val (.ref x47), .val (.ref b51), .val (.ref b57), .val (.int kd), .unset] [.null, (.ref b51)])) := c64.trans (by
      show Steps p.tables e below (T60.setTop (mkF m 261 #[.val (.int p0), .val (.int p1), .val (.int p2), .val (.int p3), .val (.int p4), .val (.int la), .val (.int ca), .val (.int cb), .val (.int ma), .val (.int da), .val (.int db), .val (.int lb), .val (.int ea), .val (.int eb), .val (.int mb), .val (.int fa), .val (.int fb), .val (.ref x38), .val (.ref x41), .val (.ref x44), .val (.ref x47), .val (.ref b51), .val (.ref b57), .val (.int kd), .unset] [(.int (1 : Int32)), (.int kd)])) _
      refine XS.icmpNo X60.here hx rfl (hb hby at_261) rfl (teq hq65).2 ?_
      refine XS.aload X60.here hx rfl (hb hby at_264) rfl rfl ?_
      refine XS.aconstNull X60.here hx rfl (hb hby at_266) ?_
      exact Steps.refl _)
    obtain ⟨cq67, kq67, q67a, q67b, q67c⟩ := isOf hZ60 rfl ((Ei54.ext E57).keep Kq60)
    obtain ⟨_, _, ⟨T67, L67, kk67, nn67⟩, -, X67, ⟨Lc67, hQ67, l67, y67, z67⟩, st67⟩ := X60.virtualBack hx (y := (⟨"com/example/evenkeel/evenkeel/Route", "equals", "(Ljava/lang/Object;)Z"⟩ : MethodName)) (z := (⟨"com/example/evenkeel/evenkeel/Route", "equals", "(Ljava/lang/Object;)Z"⟩ : MethodName)) hown60 (mvT hZ60 (hw _ (List.mem_of_getElem? (i := 87) rfl))) (mvT hZ60 (hw _ (List.mem_of_getElem? (i := 88) rfl))) (notFace_of_selects (args := #[]) (mvT hZ60 (hw _ (List.mem_of_getElem? (i := 90) rfl)))) (mvT hZ60 (hw _ (List.mem_of_getElem? (i := 90) rfl))) (mvT hZ60 (hw _ (List.mem_of_getElem? (i := 89) rfl))) (by decide) (backOf (W := 0) (rmEqN l Z a0 hw [] b51 T60.heap n0 z60 ) hZ60 (hw _ (List.mem_of_getElem? (i := 91) rfl)) (hw _ (List.mem_of_getElem? (i := 39) rfl)) (by decide) (by decide)) q67a q67c (g := (mkF m 267 #[.val (.int p0), .val (.int p1), .val (.int p2), .val (.int p3), .val (.int p4), .val (.int la), .val (.int ca), .val (.int cb), .val (.int ma), .val (.int da), .val (.int db), .val (.int lb), .val (.int ea), .val (.int eb), .val (.int mb), .val (.int fa), .val (.int fb), .val (.ref x38), .val (.ref x41), .val (.ref x44), .val (.ref x47), .val (.ref b51), .val (.ref b57), .val (.int kd), .unset] [.null, (.ref b51)])) rfl (by rw [hml]; rfl) (Steps.refl _) (argsL := [.null]) (rest := []) (lenOf pd_oLjavaslangsObjectecZ rfl) rfl (by show 2 * 0 + _ ≤ _; exact Nat.le_of_eq rfl) (hb hby at_267) (fun _ _ => ⟨rfl, rfl, (by decide : 34 + 0 ≤ _), (by decide : 174 + 0 ≤ _)⟩)
    dsimp only [Pt.U, Pt.locs, Pt.cells, Pt.slots] at X67 l67 y67 z67 st67 hQ67
    subst l67 y67 z67
    obtain ⟨rfl, Nq67, eq67⟩ := hQ67
    have c68 : Steps p.tables e below S0 (T67.setTop (mkF m 270 #[.val (.int p0), .val (.int p1), .val (.int p2), .val (.int p3), .val (.int p4), .val (.int la), .val (.int ca), .val (.int cb), .val (.int ma), .val (.int da), .val (.int db), .val (.int lb), .val (.int ea), .val (.int eb), .val (.int mb), .val (.int fa), .val (.int fb), .val (.ref x38), .val (.ref x41), .val (.ref x44), .val (.ref x47), .val (.ref b51), .val (.ref b57), .val (.int kd), .unset] [(.int (0 : Int32))])) := c66.trans (st67)
    have N67 := Fr.app N60 Nq67
    have c69 : Steps p.tables e below S0 (T67.setTop (mkF m 278 #[.val (.int p0), .val (.int p1), .val (.int p2), .val (.int p3), .val (.int p4), .val (.int la), .val (.int ca), .val (.int cb), .val (.int ma), .val (.int da), .val (.int db), .val (.int lb), .val (.int ea), .val (.int eb), .val (.int mb), .val (.int fa), .val (.int fb), .val (.ref x38), .val (.ref x41), .val (.ref x44), .val (.ref x47), .val (.ref b51), .val (.ref b57), .val (.int kd), .unset] [(.int (1 : Int32))])) := c68.trans (by
      show Steps p.tables e below (T67.setTop (mkF m 270 #[.val (.int p0), .val (.int p1), .val (.int p2), .val (.int p3), .val (.int p4), .val (.int la), .val (.int ca), .val (.int cb), .val (.int ma), .val (.int da), .val (.int db), .val (.int lb), .val (.int ea), .val (.int eb), .val (.int mb), .val (.int fa), .val (.int fb), .val (.ref x38), .val (.ref x41), .val (.ref x44), .val (.ref x47), .val (.ref b51), .val (.ref b57), .val (.int kd), .unset] [(.int (0 : Int32))])) _
      refine XS.ifNo X67.here hx rfl (hb hby at_270) rfl ((if0 _ _).trans (teq (by decide : ((0 : Int32) = (0 : Int32)))).2) ?_
      refine XS.iconst X67.here hx rfl (hb hby at_273) ?_
      refine XS.goto X67.here hx rfl (pc0 := 274) (pc' := 278) rfl (hb hby at_274) (by decide) (by decide) ?_
      exact Steps.refl _)
    obtain ⟨fs, hr, hrun, hended, hW⟩ := X67.leaveW hS60 (by rw [eq67]; exact (Nat.le_refl _)) (v := some (.int (1 : Int32))) (fun h => by rw [Bd.returns] at h; cases h)
    refine ⟨_, _, c69.trans (retOut X67 hx Bd.returns rfl (Or.inl ⟨rfl, by simp, _, rfl⟩) (hb hby at_278) hr), hrun, hended, _, _, rfl, ?_, ?_, hW.1, hW.2.1, hW.2.2.1, hW.2.2.2.mono (by first | decide | exact Nat.le_of_ble_eq_true rfl) (by first | decide | exact Nat.le_of_ble_eq_true rfl)⟩
    · show Q0 Z  h0 n0 _ T67.heap _
      rw [eq67]
      exact ⟨rfl, N67⟩
    · show CHr Z EL0 s.vm s.heap T67.vm T67.heap
      rw [hh, eq67]; exact R60.trans (CHv.at X67 hZ60 hEL R60.1)
  · have c70 : Steps p.tables e below S0 (T60.setTop (mkF m 282 #[.val (.int p0), .val (.int p1), .val (.int p2), .val (.int p3), .val (.int p4), .val (.int la), .val (.int ca), .val (.int cb), .val (.int ma), .val (.int da), .val (.int db), .val (.int lb), .val (.int ea), .val (.int eb), .val (.int mb), .val (.int fa), .val (.int fb), .val (.ref x38), .val (.ref x41), .val (.ref x44), .val (.ref x47), .val (.ref b51), .val (.ref b57), .val (.int kd), .unset] [(.int (2 : Int32)), (.int kd)])) := c64.trans (by
      show Steps p.tables e below (T60.setTop (mkF m 261 #[.val (.int p0), .val (.int p1), .val (.int p2), .val (.int p3), .val (.int p4), .val (.int la), .val (.int ca), .val (.int cb), .val (.int ma), .val (.int da), .val (.int db), .val (.int lb), .val (.int ea), .val (.int eb), .val (.int mb), .val (.int fa), .val (.int fb), .val (.ref x38), .val (.ref x41), .val (.ref x44), .val (.ref x47), .val (.ref b51), .val (.ref b57), .val (.int kd), .unset] [(.int (1 : Int32)), (.int kd)])) _
      refine XS.icmpYes X60.here hx rfl (pc0 := 261) (pc' := 279) rfl (hb hby at_261) rfl (feq hq65).2 (by decide) (by decide) ?_
      refine XS.iload X60.here hx rfl (hb hby at_279) rfl ?_
      refine XS.iconst X60.here hx rfl (hb hby at_281) ?_
      exact Steps.refl _)
    by_cases hq71 : kd = (2 : Int32)
    · have c72 : Steps p.tables e below S0 (T60.setTop (mkF m 289 #[.val (.int p0), .val (.int p1), .val (.int p2), .val (.int p3), .val (.int p4), .val (.int la), .val (.int ca), .val (.int cb), .val (.int ma), .val (.int da), .val (.int db), .val (.int lb), .val (.int ea), .val (.int eb), .val (.int mb), .val (.int fa), .val (.int fb), .val (.ref x38), .val (.ref x41), .val (.ref x44), .val (.ref x47), .val (.ref b51), .val (.ref b57), .val (.int kd), .unset] [(.ref x44), (.ref b51)])) := c70.trans (by
        show Steps p.tables e below (T60.setTop (mkF m 282 #[.val (.int p0), .val (.int p1), .val (.int p2), .val (.int p3), .val (.int p4), .val (.int la), .val (.int ca), .val (.int cb), .val (.int ma), .val (.int da), .val (.int db), .val (.int lb), .val (.int ea), .val (.int eb), .val (.int mb), .val (.int fa), .val (.int fb), .val (.ref x38), .val (.ref x41), .val (.ref x44), .val (.ref x47), .val (.ref b51), .val (.ref b57), .val (.int kd), .unset] [(.int (2 : Int32)), (.int kd)])) _
        refine XS.icmpNo X60.here hx rfl (hb hby at_282) rfl (teq hq71).2 ?_
        refine XS.aload X60.here hx rfl (hb hby at_285) rfl rfl ?_
        refine XS.aload X60.here hx rfl (hb hby at_287) rfl rfl ?_
        exact Steps.refl _)
      obtain ⟨cq73, kq73, q73a, q73b, q73c⟩ := isOf hZ60 rfl ((Ei54.ext E57).keep Kq60)
      obtain ⟨_, _, ⟨T73, L73, kk73, nn73⟩, -, X73, ⟨Lc73, hQ73, l73, y73, z73⟩, st73⟩ := X60.virtualBack hx (y := (⟨"com/example/evenkeel/evenkeel/Route", "equals", "(Ljava/lang/Object;)Z"⟩ : MethodName)) (z := (⟨"com/example/evenkeel/evenkeel/Route", "equals", "(Ljava/lang/Object;)Z"⟩ : MethodName)) hown60 (mvT hZ60 (hw _ (List.mem_of_getElem? (i := 87) rfl))) (mvT hZ60 (hw _ (List.mem_of_getElem? (i := 88) rfl))) (notFace_of_selects (args := #[]) (mvT hZ60 (hw _ (List.mem_of_getElem? (i := 90) rfl)))) (mvT hZ60 (hw _ (List.mem_of_getElem? (i := 90) rfl))) (mvT hZ60 (hw _ (List.mem_of_getElem? (i := 89) rfl))) (by decide) (backOf (W := 0) (rmEqS l Z a0 hw [] b51 x44 T60.heap n0 z60 Ss60.1) hZ60 (hw _ (List.mem_of_getElem? (i := 91) rfl)) (hw _ (List.mem_of_getElem? (i := 39) rfl)) (by decide) (by decide)) q73a q73c (g := (mkF m 289 #[.val (.int p0), .val (.int p1), .val (.int p2), .val (.int p3), .val (.int p4), .val (.int la), .val (.int ca), .val (.int cb), .val (.int ma), .val (.int da), .val (.int db), .val (.int lb), .val (.int ea), .val (.int eb), .val (.int mb), .val (.int fa), .val (.int fb), .val (.ref x38), .val (.ref x41), .val (.ref x44), .val (.ref x47), .val (.ref b51), .val (.ref b57), .val (.int kd), .unset] [(.ref x44), (.ref b51)])) rfl (by rw [hml]; rfl) (Steps.refl _) (argsL := [(.ref x44)]) (rest := []) (lenOf pd_oLjavaslangsObjectecZ rfl) rfl (by show 2 * 0 + _ ≤ _; exact Nat.le_of_eq rfl) (hb hby at_289) (fun _ _ => ⟨rfl, rfl, (by decide : 34 + 0 ≤ _), (by decide : 174 + 0 ≤ _)⟩)
      dsimp only [Pt.U, Pt.locs, Pt.cells, Pt.slots] at X73 l73 y73 z73 st73 hQ73
      subst l73 y73 z73
      obtain ⟨rfl, Nq73, eq73⟩ := hQ73
      have c74 : Steps p.tables e below S0 (T73.setTop (mkF m 292 #[.val (.int p0), .val (.int p1), .val (.int p2), .val (.int p3), .val (.int p4), .val (.int la), .val (.int ca), .val (.int cb), .val (.int ma), .val (.int da), .val (.int db), .val (.int lb), .val (.int ea), .val (.int eb), .val (.int mb), .val (.int fa), .val (.int fb), .val (.ref x38), .val (.ref x41), .val (.ref x44), .val (.ref x47), .val (.ref b51), .val (.ref b57), .val (.int kd), .unset] [(.int (0 : Int32))])) := c72.trans (st73)
      have N73 := Fr.app N60 Nq73
      have c75 : Steps p.tables e below S0 (T73.setTop (mkF m 300 #[.val (.int p0), .val (.int p1), .val (.int p2), .val (.int p3), .val (.int p4), .val (.int la), .val (.int ca), .val (.int cb), .val (.int ma), .val (.int da), .val (.int db), .val (.int lb), .val (.int ea), .val (.int eb), .val (.int mb), .val (.int fa), .val (.int fb), .val (.ref x38), .val (.ref x41), .val (.ref x44), .val (.ref x47), .val (.ref b51), .val (.ref b57), .val (.int kd), .unset] [(.int (1 : Int32))])) := c74.trans (by
        show Steps p.tables e below (T73.setTop (mkF m 292 #[.val (.int p0), .val (.int p1), .val (.int p2), .val (.int p3), .val (.int p4), .val (.int la), .val (.int ca), .val (.int cb), .val (.int ma), .val (.int da), .val (.int db), .val (.int lb), .val (.int ea), .val (.int eb), .val (.int mb), .val (.int fa), .val (.int fb), .val (.ref x38), .val (.ref x41), .val (.ref x44), .val (.ref x47), .val (.ref b51), .val (.ref b57), .val (.int kd), .unset] [(.int (0 : Int32))])) _
        refine XS.ifNo X73.here hx rfl (hb hby at_292) rfl ((if0 _ _).trans (teq (by decide : ((0 : Int32) = (0 : Int32)))).2) ?_
        refine XS.iconst X73.here hx rfl (hb hby at_295) ?_
        refine XS.goto X73.here hx rfl (pc0 := 296) (pc' := 300) rfl (hb hby at_296) (by decide) (by decide) ?_
        exact Steps.refl _)
      obtain ⟨fs, hr, hrun, hended, hW⟩ := X73.leaveW hS60 (by rw [eq73]; exact (Nat.le_refl _)) (v := some (.int (1 : Int32))) (fun h => by rw [Bd.returns] at h; cases h)
      refine ⟨_, _, c75.trans (retOut X73 hx Bd.returns rfl (Or.inl ⟨rfl, by simp, _, rfl⟩) (hb hby at_300) hr), hrun, hended, _, _, rfl, ?_, ?_, hW.1, hW.2.1, hW.2.2.1, hW.2.2.2.mono (by first | decide | exact Nat.le_of_ble_eq_true rfl) (by first | decide | exact Nat.le_of_ble_eq_true rfl)⟩
      · show Q0 Z  h0 n0 _ T73.heap _
        rw [eq73]
        exact ⟨rfl, N73⟩
      · show CHr Z EL0 s.vm s.heap T73.vm T73.heap
        rw [hh, eq73]; exact R60.trans (CHv.at X73 hZ60 hEL R60.1)
    · have c76 : Steps p.tables e below S0 (T60.setTop (mkF m 304 #[.val (.int p0), .val (.int p1), .val (.int p2), .val (.int p3), .val (.int p4), .val (.int la), .val (.int ca), .val (.int cb), .val (.int ma), .val (.int da), .val (.int db), .val (.int lb), .val (.int ea), .val (.int eb), .val (.int mb), .val (.int fa), .val (.int fb), .val (.ref x38), .val (.ref x41), .val (.ref x44), .val (.ref x47), .val (.ref b51), .val (.ref b57), .val (.int kd), .unset] [(.int (3 : Int32)), (.int kd)])) := c70.trans (by
        show Steps p.tables e below (T60.setTop (mkF m 282 #[.val (.int p0), .val (.int p1), .val (.int p2), .val (.int p3), .val (.int p4), .val (.int la), .val (.int ca), .val (.int cb), .val (.int ma), .val (.int da), .val (.int db), .val (.int lb), .val (.int ea), .val (.int eb), .val (.int mb), .val (.int fa), .val (.int fb), .val (.ref x38), .val (.ref x41), .val (.ref x44), .val (.ref x47), .val (.ref b51), .val (.ref b57), .val (.int kd), .unset] [(.int (2 : Int32)), (.int kd)])) _
        refine XS.icmpYes X60.here hx rfl (pc0 := 282) (pc' := 301) rfl (hb hby at_282) rfl (feq hq71).2 (by decide) (by decide) ?_
        refine XS.iload X60.here hx rfl (hb hby at_301) rfl ?_
        refine XS.iconst X60.here hx rfl (hb hby at_303) ?_
        exact Steps.refl _)
      by_cases hq77 : kd = (3 : Int32)
      · have c78 : Steps p.tables e below S0 (T60.setTop (mkF m 311 #[.val (.int p0), .val (.int p1), .val (.int p2), .val (.int p3), .val (.int p4), .val (.int la), .val (.int ca), .val (.int cb), .val (.int ma), .val (.int da), .val (.int db), .val (.int lb), .val (.int ea), .val (.int eb), .val (.int mb), .val (.int fa), .val (.int fb), .val (.ref x38), .val (.ref x41), .val (.ref x44), .val (.ref x47), .val (.ref b51), .val (.ref b57), .val (.int kd), .unset] [(.ref b51), (.ref b51)])) := c76.trans (by
          show Steps p.tables e below (T60.setTop (mkF m 304 #[.val (.int p0), .val (.int p1), .val (.int p2), .val (.int p3), .val (.int p4), .val (.int la), .val (.int ca), .val (.int cb), .val (.int ma), .val (.int da), .val (.int db), .val (.int lb), .val (.int ea), .val (.int eb), .val (.int mb), .val (.int fa), .val (.int fb), .val (.ref x38), .val (.ref x41), .val (.ref x44), .val (.ref x47), .val (.ref b51), .val (.ref b57), .val (.int kd), .unset] [(.int (3 : Int32)), (.int kd)])) _
          refine XS.icmpNo X60.here hx rfl (hb hby at_304) rfl (teq hq77).2 ?_
          refine XS.aload X60.here hx rfl (hb hby at_307) rfl rfl ?_
          refine XS.aload X60.here hx rfl (hb hby at_309) rfl rfl ?_
          exact Steps.refl _)
        obtain ⟨cq79, kq79, q79a, q79b, q79c⟩ := isOf hZ60 rfl ((Ei54.ext E57).keep Kq60)
        obtain ⟨_, _, ⟨T79, L79, kk79, nn79⟩, -, X79, ⟨Lc79, hQ79, l79, y79, z79⟩, st79⟩ := X60.virtualBack hx (y := (⟨"com/example/evenkeel/evenkeel/Route", "equals", "(Ljava/lang/Object;)Z"⟩ : MethodName)) (z := (⟨"com/example/evenkeel/evenkeel/Route", "equals", "(Ljava/lang/Object;)Z"⟩ : MethodName)) hown60 (mvT hZ60 (hw _ (List.mem_of_getElem? (i := 87) rfl))) (mvT hZ60 (hw _ (List.mem_of_getElem? (i := 88) rfl))) (notFace_of_selects (args := #[]) (mvT hZ60 (hw _ (List.mem_of_getElem? (i := 90) rfl)))) (mvT hZ60 (hw _ (List.mem_of_getElem? (i := 90) rfl))) (mvT hZ60 (hw _ (List.mem_of_getElem? (i := 89) rfl))) (by decide) (backOf (W := 0) (rmEq l Z a0 hw [] b51 b51 x38 t38 x41 t41 x38 t38 x41 t41 kb38 kb41 kb38 kb41 (own_mk la ca cb) (own_mk ma da db) (own_mk la ca cb) (own_mk ma da db) G1 T60.heap n0 z60 ((Ei54.ext E57).keep Kq60) ((Fa54.ext E57).keep Kq60 (ninS (Nat.ne_of_lt (Nat.lt_of_lt_of_le (Nat.lt_of_lt_of_le lt_b51 Kq54.1) (Nat.le_of_eq g57.symm))) (ninS (Ne.symm (Nat.ne_of_lt (Nat.lt_of_lt_of_le (Nat.lt_of_lt_of_le lt_x44 Kq47.1) (Nat.le_of_eq g51.symm)))) (ninS (Ne.symm (Nat.ne_of_lt (Nat.lt_of_lt_of_le lt_x47 (Nat.le_of_eq g51.symm)))) nin0)))) ((Fb54.ext E57).keep Kq60 (ninS (Nat.ne_of_lt (Nat.lt_of_lt_of_le (Nat.lt_of_lt_of_le lt_b51 Kq54.1) (Nat.le_of_eq g57.symm))) (ninS (Ne.symm (Nat.ne_of_lt (Nat.lt_of_lt_of_le (Nat.lt_of_lt_of_le lt_x44 Kq47.1) (Nat.le_of_eq g51.symm)))) (ninS (Ne.symm (Nat.ne_of_lt (Nat.lt_of_lt_of_le lt_x47 (Nat.le_of_eq g51.symm)))) nin0)))) ((Fh54.ext E57).keep Kq60 (ninS (Nat.ne_of_lt (Nat.lt_of_lt_of_le (Nat.lt_of_lt_of_le lt_b51 Kq54.1) (Nat.le_of_eq g57.symm))) (ninS (Ne.symm (Nat.ne_of_lt (Nat.lt_of_lt_of_le (Nat.lt_of_lt_of_le lt_x44 Kq47.1) (Nat.le_of_eq g51.symm)))) (ninS (Ne.symm (Nat.ne_of_lt (Nat.lt_of_lt_of_le lt_x47 (Nat.le_of_eq g51.symm)))) nin0)))) ((Fa54.ext E57).keep Kq60 (ninS (Nat.ne_of_lt (Nat.lt_of_lt_of_le (Nat.lt_of_lt_of_le lt_b51 Kq54.1) (Nat.le_of_eq g57.symm))) (ninS (Ne.symm (Nat.ne_of_lt (Nat.lt_of_lt_of_le (Nat.lt_of_lt_of_le lt_x44 Kq47.1) (Nat.le_of_eq g51.symm)))) (ninS (Ne.symm (Nat.ne_of_lt (Nat.lt_of_lt_of_le lt_x47 (Nat.le_of_eq g51.symm)))) nin0)))) ((Fb54.ext E57).keep Kq60 (ninS (Nat.ne_of_lt (Nat.lt_of_lt_of_le (Nat.lt_of_lt_of_le lt_b51 Kq54.1) (Nat.le_of_eq g57.symm))) (ninS (Ne.symm (Nat.ne_of_lt (Nat.lt_of_lt_of_le (Nat.lt_of_lt_of_le lt_x44 Kq47.1) (Nat.le_of_eq g51.symm)))) (ninS (Ne.symm (Nat.ne_of_lt (Nat.lt_of_lt_of_le lt_x47 (Nat.le_of_eq g51.symm)))) nin0)))) ((Fh54.ext E57).keep Kq60 (ninS (Nat.ne_of_lt (Nat.lt_of_lt_of_le (Nat.lt_of_lt_of_le lt_b51 Kq54.1) (Nat.le_of_eq g57.symm))) (ninS (Ne.symm (Nat.ne_of_lt (Nat.lt_of_lt_of_le (Nat.lt_of_lt_of_le lt_x44 Kq47.1) (Nat.le_of_eq g51.symm)))) (ninS (Ne.symm (Nat.ne_of_lt (Nat.lt_of_lt_of_le lt_x47 (Nat.le_of_eq g51.symm)))) nin0)))) ⟨((Ss54.1.ext E57).keep Kq60), ((Ss54.2.1.ext E57).keep Kq60 (ninS (Nat.ne_of_lt (Nat.lt_of_lt_of_le (Nat.lt_of_lt_of_le lt_x38 (Nat.le_trans (Nat.le_trans (Nat.le_trans (Nat.le_trans Kq41.1 Kq44.1) Kq47.1) E51.1) Kq54.1)) (Nat.le_of_eq g57.symm))) (ninS (Nat.ne_of_lt (Nat.lt_of_lt_of_le (Nat.lt_of_lt_of_le lt_x38 Kq41.1) gx44)) (ninS (Nat.ne_of_lt (Nat.lt_of_lt_of_le (Nat.lt_of_lt_of_le lt_x38 (Nat.le_trans Kq41.1 Kq44.1)) gx47)) nin0)))), ((Ss54.2.2.1.ext E57).keep Kq60 (ninS (Nat.ne_of_lt (Nat.lt_of_lt_of_le (Nat.lt_of_lt_of_le lt_x38 (Nat.le_trans (Nat.le_trans (Nat.le_trans (Nat.le_trans Kq41.1 Kq44.1) Kq47.1) E51.1) Kq54.1)) (Nat.le_of_eq g57.symm))) (ninS (Nat.ne_of_lt (Nat.lt_of_lt_of_le (Nat.lt_of_lt_of_le lt_x38 Kq41.1) gx44)) (ninS (Nat.ne_of_lt (Nat.lt_of_lt_of_le (Nat.lt_of_lt_of_le lt_x38 (Nat.le_trans Kq41.1 Kq44.1)) gx47)) nin0)))), ((Ss54.2.2.2.1.ext E57).keep Kq60 (ninS (Nat.ne_of_lt (Nat.lt_of_lt_of_le (Nat.lt_of_lt_of_le lt_t38 (Nat.le_trans (Nat.le_trans (Nat.le_trans (Nat.le_trans Kq41.1 Kq44.1) Kq47.1) E51.1) Kq54.1)) (Nat.le_of_eq g57.symm))) (ninS (Nat.ne_of_lt (Nat.lt_of_lt_of_le (Nat.lt_of_lt_of_le lt_t38 Kq41.1) gx44)) (ninS (Nat.ne_of_lt (Nat.lt_of_lt_of_le (Nat.lt_of_lt_of_le lt_t38 (Nat.le_trans Kq41.1 Kq44.1)) gx47)) nin0)))), Ss54.2.2.2.2.1, Ss54.2.2.2.2.2⟩ ⟨((Sm54.1.ext E57).keep Kq60), ((Sm54.2.1.ext E57).keep Kq60 (ninS (Nat.ne_of_lt (Nat.lt_of_lt_of_le (Nat.lt_of_lt_of_le lt_x41 (Nat.le_trans (Nat.le_trans (Nat.le_trans Kq44.1 Kq47.1) E51.1) Kq54.1)) (Nat.le_of_eq g57.symm))) (ninS (Nat.ne_of_lt (Nat.lt_of_lt_of_le lt_x41 gx44)) (ninS (Nat.ne_of_lt (Nat.lt_of_lt_of_le (Nat.lt_of_lt_of_le lt_x41 Kq44.1) gx47)) nin0)))), ((Sm54.2.2.1.ext E57).keep Kq60 (ninS (Nat.ne_of_lt (Nat.lt_of_lt_of_le (Nat.lt_of_lt_of_le lt_x41 (Nat.le_trans (Nat.le_trans (Nat.le_trans Kq44.1 Kq47.1) E51.1) Kq54.1)) (Nat.le_of_eq g57.symm))) (ninS (Nat.ne_of_lt (Nat.lt_of_lt_of_le lt_x41 gx44)) (ninS (Nat.ne_of_lt (Nat.lt_of_lt_of_le (Nat.lt_of_lt_of_le lt_x41 Kq44.1) gx47)) nin0)))), ((Sm54.2.2.2.1.ext E57).keep Kq60 (ninS (Nat.ne_of_lt (Nat.lt_of_lt_of_le (Nat.lt_of_lt_of_le lt_t41 (Nat.le_trans (Nat.le_trans (Nat.le_trans Kq44.1 Kq47.1) E51.1) Kq54.1)) (Nat.le_of_eq g57.symm))) (ninS (Nat.ne_of_lt (Nat.lt_of_lt_of_le lt_t41 gx44)) (ninS (Nat.ne_of_lt (Nat.lt_of_lt_of_le (Nat.lt_of_lt_of_le lt_t41 Kq44.1) gx47)) nin0)))), Sm54.2.2.2.2.1, Sm54.2.2.2.2.2⟩ ⟨((Ss54.1.ext E57).keep Kq60), ((Ss54.2.1.ext E57).keep Kq60 (ninS (Nat.ne_of_lt (Nat.lt_of_lt_of_le (Nat.lt_of_lt_of_le lt_x38 (Nat.le_trans (Nat.le_trans (Nat.le_trans (Nat.le_trans Kq41.1 Kq44.1) Kq47.1) E51.1) Kq54.1)) (Nat.le_of_eq g57.symm))) (ninS (Nat.ne_of_lt (Nat.lt_of_lt_of_le (Nat.lt_of_lt_of_le lt_x38 Kq41.1) gx44)) (ninS (Nat.ne_of_lt (Nat.lt_of_lt_of_le (Nat.lt_of_lt_of_le lt_x38 (Nat.le_trans Kq41.1 Kq44.1)) gx47)) nin0)))), ((Ss54.2.2.1.ext E57).keep Kq60 (ninS (Nat.ne_of_lt (Nat.lt_of_lt_of_le (Nat.lt_of_lt_of_le lt_x38 (Nat.le_trans (Nat.le_trans (Nat.le_trans (Nat.le_trans Kq41.1 Kq44.1) Kq47.1) E51.1) Kq54.1)) (Nat.le_of_eq g57.symm))) (ninS (Nat.ne_of_lt (Nat.lt_of_lt_of_le (Nat.lt_of_lt_of_le lt_x38 Kq41.1) gx44)) (ninS (Nat.ne_of_lt (Nat.lt_of_lt_of_le (Nat.lt_of_lt_of_le lt_x38 (Nat.le_trans Kq41.1 Kq44.1)) gx47)) nin0)))), ((Ss54.2.2.2.1.ext E57).keep Kq60 (ninS (Nat.ne_of_lt (Nat.lt_of_lt_of_le (Nat.lt_of_lt_of_le lt_t38 (Nat.le_trans (Nat.le_trans (Nat.le_trans (Nat.le_trans Kq41.1 Kq44.1) Kq47.1) E51.1) Kq54.1)) (Nat.le_of_eq g57.symm))) (ninS (Nat.ne_of_lt (Nat.lt_of_lt_of_le (Nat.lt_of_lt_of_le lt_t38 Kq41.1) gx44)) (ninS (Nat.ne_of_lt (Nat.lt_of_lt_of_le (Nat.lt_of_lt_of_le lt_t38 (Nat.le_trans Kq41.1 Kq44.1)) gx47)) nin0)))), Ss54.2.2.2.2.1, Ss54.2.2.2.2.2⟩ ⟨((Sm54.1.ext E57).keep Kq60), ((Sm54.2.1.ext E57).keep Kq60 (ninS (Nat.ne_of_lt (Nat.lt_of_lt_of_le (Nat.lt_of_lt_of_le lt_x41 (Nat.le_trans (Nat.le_trans (Nat.le_trans Kq44.1 Kq47.1) E51.1) Kq54.1)) (Nat.le_of_eq g57.symm))) (ninS (Nat.ne_of_lt (Nat.lt_of_lt_of_le lt_x41 gx44)) (ninS (Nat.ne_of_lt (Nat.lt_of_lt_of_le (Nat.lt_of_lt_of_le lt_x41 Kq44.1) gx47)) nin0)))), ((Sm54.2.2.1.ext E57).keep Kq60 (ninS (Nat.ne_of_lt (Nat.lt_of_lt_of_le (Nat.lt_of_lt_of_le lt_x41 (Nat.le_trans (Nat.le_trans (Nat.le_trans Kq44.1 Kq47.1) E51.1) Kq54.1)) (Nat.le_of_eq g57.symm))) (ninS (Nat.ne_of_lt (Nat.lt_of_lt_of_le lt_x41 gx44)) (ninS (Nat.ne_of_lt (Nat.lt_of_lt_of_le (Nat.lt_of_lt_of_le lt_x41 Kq44.1) gx47)) nin0)))), ((Sm54.2.2.2.1.ext E57).keep Kq60 (ninS (Nat.ne_of_lt (Nat.lt_of_lt_of_le (Nat.lt_of_lt_of_le lt_t41 (Nat.le_trans (Nat.le_trans (Nat.le_trans Kq44.1 Kq47.1) E51.1) Kq54.1)) (Nat.le_of_eq g57.symm))) (ninS (Nat.ne_of_lt (Nat.lt_of_lt_of_le lt_t41 gx44)) (ninS (Nat.ne_of_lt (Nat.lt_of_lt_of_le (Nat.lt_of_lt_of_le lt_t41 Kq44.1) gx47)) nin0)))), Sm54.2.2.2.2.1, Sm54.2.2.2.2.2⟩ O2 P5 ((((((((X00.keep Kq38 all0).keep Kq41 all0).keep Kq44 all0).keep Kq47 all0).ext E51).keep Kq54 (allS (Nat.le_trans Z0 (Nat.le_trans K47.1 (Nat.le_of_eq g51.symm))) (allS (Nat.le_trans Z0 (Nat.le_trans K0.1 gx38)) (allS (Nat.le_trans Z0 (Nat.le_trans K38.1 gx41)) all0)))).ext E57).keep Kq60 (allS (Nat.le_trans Z0 (Nat.le_trans K54.1 (Nat.le_of_eq g57.symm))) (allS (Nat.le_trans Z0 (Nat.le_trans K41.1 gx44)) (allS (Nat.le_trans Z0 (Nat.le_trans K44.1 gx47)) all0))))) hZ60 (hw _ (List.mem_of_getElem? (i := 91) rfl)) (hw _ (List.mem_of_getElem? (i := 39) rfl)) (by decide) (by decide)) q79a q79c (g := (mkF m 311 #[.val (.int p0), .val (.int p1), .val (.int p2), .val (.int p3), .val (.int p4), .val (.int la), .val (.int ca), .val (.int cb), .val (.int ma), .val (.int da), .val (.int db), .val (.int lb), .val (.int ea), .val (.int eb), .val (.int mb), .val (.int fa), .val (.int fb), .val (.ref x38), .val (.ref x41), .val (.ref x44), .val (.ref x47), .val (.ref b51), .val (.ref b57), .val (.int kd), .unset] [(.ref b51), (.ref b51)])) rfl (by rw [hml]; rfl) (Steps.refl _) (argsL := [(.ref b51)]) (rest := []) (lenOf pd_oLjavaslangsObjectecZ rfl) rfl (by show 2 * 0 + _ ≤ _; exact Nat.le_of_eq rfl) (hb hby at_311) (fun _ _ => ⟨rfl, rfl, (by decide : 34 + 0 ≤ _), (by decide : 174 + 0 ≤ _)⟩)
        dsimp only [Pt.U, Pt.locs, Pt.cells, Pt.slots] at X79 l79 y79 z79 st79 hQ79
        subst l79 y79 z79
        obtain ⟨r79, rfl, hr79, Nq79, eq79⟩ := hQ79
        have c80 : Steps p.tables e below S0 (T79.setTop (mkF m 314 #[.val (.int p0), .val (.int p1), .val (.int p2), .val (.int p3), .val (.int p4), .val (.int la), .val (.int ca), .val (.int cb), .val (.int ma), .val (.int da), .val (.int db), .val (.int lb), .val (.int ea), .val (.int eb), .val (.int mb), .val (.int fa), .val (.int fb), .val (.ref x38), .val (.ref x41), .val (.ref x44), .val (.ref x47), .val (.ref b51), .val (.ref b57), .val (.int kd), .unset] [(.int r79)])) := c78.trans (st79)
        have N79 := Fr.app N60 Nq79
        have e1 : r79 = 1 := own_is1 hr79 ⟨rfl, rfl⟩
        rw [e1] at c80
        obtain ⟨fs, hr, hrun, hended, hW⟩ := X79.leaveW hS60 (by rw [eq79]; exact (Nat.le_refl _)) (v := some (.int (1 : Int32))) (fun h => by rw [Bd.returns] at h; cases h)
        refine ⟨_, _, c80.trans (retOut X79 hx Bd.returns rfl (Or.inl ⟨rfl, by simp, _, rfl⟩) (hb hby at_314) hr), hrun, hended, _, _, rfl, ?_, ?_, hW.1, hW.2.1, hW.2.2.1, hW.2.2.2.mono (by first | decide | exact Nat.le_of_ble_eq_true rfl) (by first | decide | exact Nat.le_of_ble_eq_true rfl)⟩
        · show Q0 Z  h0 n0 _ T79.heap _
          rw [eq79]
          exact ⟨rfl, N79⟩
        · show CHr Z EL0 s.vm s.heap T79.vm T79.heap
          rw [hh, eq79]; exact R60.trans (CHv.at X79 hZ60 hEL R60.1)
      · have c81 : Steps p.tables e below S0 (T60.setTop (mkF m 327 #[.val (.int p0), .val (.int p1), .val (.int p2), .val (.int p3), .val (.int p4), .val (.int la), .val (.int ca), .val (.int cb), .val (.int ma), .val (.int da), .val (.int db), .val (.int lb), .val (.int ea), .val (.int eb), .val (.int mb), .val (.int fa), .val (.int fb), .val (.ref x38), .val (.ref x41), .val (.ref x44), .val (.ref x47), .val (.ref b51), .val (.ref b57), .val (.int kd), .unset] [(.int eb), (.int ea), (.int lb), (.int cb), (.int ca), (.int la)])) := c76.trans (by
          show Steps p.tables e below (T60.setTop (mkF m 304 #[.val (.int p0), .val (.int p1), .val (.int p2), .val (.int p3), .val (.int p4), .val (.int la), .val (.int ca), .val (.int cb), .val (.int ma), .val (.int da), .val (.int db), .val (.int lb), .val (.int ea), .val (.int eb), .val (.int mb), .val (.int fa), .val (.int fb), .val (.ref x38), .val (.ref x41), .val (.ref x44), .val (.ref x47), .val (.ref b51), .val (.ref b57), .val (.int kd), .unset] [(.int (3 : Int32)), (.int kd)])) _
          refine XS.icmpYes X60.here hx rfl (pc0 := 304) (pc' := 315) rfl (hb hby at_304) rfl (feq hq77).2 (by decide) (by decide) ?_
          refine XS.iload X60.here hx rfl (hb hby at_315) rfl ?_
          refine XS.iload X60.here hx rfl (hb hby at_317) rfl ?_
          refine XS.iload X60.here hx rfl (hb hby at_319) rfl ?_
          show Steps p.tables e below (T60.setTop (mkF m 321 #[.val (.int p0), .val (.int p1), .val (.int p2), .val (.int p3), .val (.int p4), .val (.int la), .val (.int ca), .val (.int cb), .val (.int ma), .val (.int da), .val (.int db), .val (.int lb), .val (.int ea), .val (.int eb), .val (.int mb), .val (.int fa), .val (.int fb), .val (.ref x38), .val (.ref x41), .val (.ref x44), .val (.ref x47), .val (.ref b51), .val (.ref b57), .val (.int kd), .unset] [(.int cb), (.int ca), (.int la)])) _
          refine XS.iload X60.here hx rfl (hb hby at_321) rfl ?_
          refine XS.iload X60.here hx rfl (hb hby at_323) rfl ?_
          refine XS.iload X60.here hx rfl (hb hby at_325) rfl ?_
          exact Steps.refl _)
        obtain ⟨_, _, ⟨T82, L82, kk82, nn82⟩, -, X82, ⟨Lc82, hQ82, l82, y82, z82⟩, st82⟩ := Jvm.LawKit.callS X60 hx (y := (⟨"com/example/evenkeel/evenkeel/RouteEqualsPinLaw", "same", "(IIIIII)Z"⟩ : MethodName)) hown60 (mvT hZ60 (hw _ (List.mem_of_getElem? (i := 84) rfl))) (mvT hZ60 (hw _ (List.mem_of_getElem? (i := 85) rfl))) (mvT hZ60 (hw _ (List.mem_of_getElem? (i := 2) rfl))) (mvT hZ60 (hw _ (List.mem_of_getElem? (i := 86) rfl))) (by decide) (backOf (W := 0) (rmSame l Z a0 hw [] la ca cb lb ea eb T60.heap n0 z60 l3la l3lb) hZ60 (hw _ (List.mem_of_getElem? (i := 86) rfl)) (hw _ (List.mem_of_getElem? (i := 2) rfl)) (by decide) (by decide)) (g := (mkF m 327 #[.val (.int p0), .val (.int p1), .val (.int p2), .val (.int p3), .val (.int p4), .val (.int la), .val (.int ca), .val (.int cb), .val (.int ma), .val (.int da), .val (.int db), .val (.int lb), .val (.int ea), .val (.int eb), .val (.int mb), .val (.int fa), .val (.int fb), .val (.ref x38), .val (.ref x41), .val (.ref x44), .val (.ref x47), .val (.ref b51), .val (.ref b57), .val (.int kd), .unset] [(.int eb), (.int ea), (.int lb), (.int cb), (.int ca), (.int la)])) rfl (by rw [hml]; rfl) (argsL := [(.int la), (.int ca), (.int cb), (.int lb), (.int ea), (.int eb)]) (rest := []) (lenOf pd_oIIIIIIcZ rfl) rfl (by show 2 * 0 + _ ≤ _; exact Nat.le_of_eq rfl) (hb hby at_327) (fun _ _ => ⟨rfl, rfl, (by decide : 34 + 0 ≤ _), (by decide : 174 + 0 ≤ _)⟩)
        dsimp only [Pt.U, Pt.locs, Pt.cells, Pt.slots] at X82 l82 y82 z82 st82 hQ82
        subst l82 y82 z82
        obtain ⟨r82, rfl, hr82, Nq82, eq82⟩ := hQ82
        have c83 : Steps p.tables e below S0 (T82.setTop (mkF m 330 #[.val (.int p0), .val (.int p1), .val (.int p2), .val (.int p3), .val (.int p4), .val (.int la), .val (.int ca), .val (.int cb), .val (.int ma), .val (.int da), .val (.int db), .val (.int lb), .val (.int ea), .val (.int eb), .val (.int mb), .val (.int fa), .val (.int fb), .val (.ref x38), .val (.ref x41), .val (.ref x44), .val (.ref x47), .val (.ref b51), .val (.ref b57), .val (.int kd), .unset] [(.int r82)])) := c81.trans (st82 _ (Steps.refl _))
        have N82 := Fr.app N60 Nq82
        by_cases hq84 : r82 = (0 : Int32)
        · have c85 : Steps p.tables e below S0 (T82.setTop (mkF m 362 #[.val (.int p0), .val (.int p1), .val (.int p2), .val (.int p3), .val (.int p4), .val (.int la), .val (.int ca), .val (.int cb), .val (.int ma), .val (.int da), .val (.int db), .val (.int lb), .val (.int ea), .val (.int eb), .val (.int mb), .val (.int fa), .val (.int fb), .val (.ref x38), .val (.ref x41), .val (.ref x44), .val (.ref x47), .val (.ref b51), .val (.ref b57), .val (.int kd), .val (.int (0 : Int32))] [(.ref b57), (.ref b51)])) := c83.trans (by
            show Steps p.tables e below (T82.setTop (mkF m 330 #[.val (.int p0), .val (.int p1), .val (.int p2), .val (.int p3), .val (.int p4), .val (.int la), .val (.int ca), .val (.int cb), .val (.int ma), .val (.int da), .val (.int db), .val (.int lb), .val (.int ea), .val (.int eb), .val (.int mb), .val (.int fa), .val (.int fb), .val (.ref x38), .val (.ref x41), .val (.ref x44), .val (.ref x47), .val (.ref b51), .val (.ref b57), .val (.int kd), .unset] [(.int r82)])) _
            refine XS.ifYes X82.here hx rfl (pc0 := 330) (pc' := 355) rfl (hb hby at_330) rfl ((if0 _ _).trans (teq hq84).1) (by decide) (by decide) ?_
            refine XS.iconst X82.here hx rfl (hb hby at_355) ?_
            refine XS.istore X82.here hx rfl (hb hby at_356) rfl (l' := #[.val (.int p0), .val (.int p1), .val (.int p2), .val (.int p3), .val (.int p4), .val (.int la), .val (.int ca), .val (.int cb), .val (.int ma), .val (.int da), .val (.int db), .val (.int lb), .val (.int ea), .val (.int eb), .val (.int mb), .val (.int fa), .val (.int fb), .val (.ref x38), .val (.ref x41), .val (.ref x44), .val (.ref x47), .val (.ref b51), .val (.ref b57), .val (.int kd), .val (.int (0 : Int32))]) rfl ?_
            refine XS.aload X82.here hx rfl (hb hby at_358) rfl rfl ?_
            show Steps p.tables e below (T82.setTop (mkF m 360 #[.val (.int p0), .val (.int p1), .val (.int p2), .val (.int p3), .val (.int p4), .val (.int la), .val (.int ca), .val (.int cb), .val (.int ma), .val (.int da), .val (.int db), .val (.int lb), .val (.int ea), .val (.int eb), .val (.int mb), .val (.int fa), .val (.int fb), .val (.ref x38), .val (.ref x41), .val (.ref x44), .val (.ref x47), .val (.ref b51), .val (.ref b57), .val (.int kd), .val (.int (0 : Int32))] [(.ref b51)])) _
            refine XS.aload X82.here hx rfl (hb hby at_360) rfl rfl ?_
            exact Steps.refl _)
          obtain ⟨cq86, kq86, q86a, q86b, q86c⟩ := isOf hZ60 eq82 ((Ei54.ext E57).keep Kq60)
          obtain ⟨_, _, ⟨T86, L86, kk86, nn86⟩, -, X86, ⟨Lc86, hQ86, l86, y86, z86⟩, st86⟩ := X82.virtualBack hx (y := (⟨"com/example/evenkeel/evenkeel/Route", "equals", "(Ljava/lang/Object;)Z"⟩ : MethodName)) (z := (⟨"com/example/evenkeel/evenkeel/Route", "equals", "(Ljava/lang/Object;)Z"⟩ : MethodName)) hown60 (mvT hZ60 (hw _ (List.mem_of_getElem? (i := 87) rfl))) (mvT hZ60 (hw _ (List.mem_of_getElem? (i := 88) rfl))) (notFace_of_selects (args := #[]) (mvT hZ60 (hw _ (List.mem_of_getElem? (i := 90) rfl)))) (mvT hZ60 (hw _ (List.mem_of_getElem? (i := 90) rfl))) (mvT hZ60 (hw _ (List.mem_of_getElem? (i := 89) rfl))) (by decide) (backOf (W := 0) (rmEq l Z a0 hw [] b51 b57 x38 t38 x41 t41 x44 t44 x47 t47 kb38 kb41 kb44 kb47 (own_mk la ca cb) (own_mk ma da db) (own_mk lb ea eb) (own_mk mb fa fb) G1 T60.heap n0 z60 Ei60 ((Fa54.ext E57).keep Kq60 (ninS (Nat.ne_of_lt (Nat.lt_of_lt_of_le (Nat.lt_of_lt_of_le lt_b51 Kq54.1) (Nat.le_of_eq g57.symm))) (ninS (Ne.symm (Nat.ne_of_lt (Nat.lt_of_lt_of_le (Nat.lt_of_lt_of_le lt_x44 Kq47.1) (Nat.le_of_eq g51.symm)))) (ninS (Ne.symm (Nat.ne_of_lt (Nat.lt_of_lt_of_le lt_x47 (Nat.le_of_eq g51.symm)))) nin0)))) ((Fb54.ext E57).keep Kq60 (ninS (Nat.ne_of_lt (Nat.lt_of_lt_of_le (Nat.lt_of_lt_of_le lt_b51 Kq54.1) (Nat.le_of_eq g57.symm))) (ninS (Ne.symm (Nat.ne_of_lt (Nat.lt_of_lt_of_le (Nat.lt_of_lt_of_le lt_x44 Kq47.1) (Nat.le_of_eq g51.symm)))) (ninS (Ne.symm (Nat.ne_of_lt (Nat.lt_of_lt_of_le lt_x47 (Nat.le_of_eq g51.symm)))) nin0)))) ((Fh54.ext E57).keep Kq60 (ninS (Nat.ne_of_lt (Nat.lt_of_lt_of_le (Nat.lt_of_lt_of_le lt_b51 Kq54.1) (Nat.le_of_eq g57.symm))) (ninS (Ne.symm (Nat.ne_of_lt (Nat.lt_of_lt_of_le (Nat.lt_of_lt_of_le lt_x44 Kq47.1) (Nat.le_of_eq g51.symm)))) (ninS (Ne.symm (Nat.ne_of_lt (Nat.lt_of_lt_of_le lt_x47 (Nat.le_of_eq g51.symm)))) nin0)))) Fa60 Fb60 Fh60 ⟨((Ss54.1.ext E57).keep Kq60), ((Ss54.2.1.ext E57).keep Kq60 (ninS (Nat.ne_of_lt (Nat.lt_of_lt_of_le (Nat.lt_of_lt_of_le lt_x38 (Nat.le_trans (Nat.le_trans (Nat.le_trans (Nat.le_trans Kq41.1 Kq44.1) Kq47.1) E51.1) Kq54.1)) (Nat.le_of_eq g57.symm))) (ninS (Nat.ne_of_lt (Nat.lt_of_lt_of_le (Nat.lt_of_lt_of_le lt_x38 Kq41.1) gx44)) (ninS (Nat.ne_of_lt (Nat.lt_of_lt_of_le (Nat.lt_of_lt_of_le lt_x38 (Nat.le_trans Kq41.1 Kq44.1)) gx47)) nin0)))), ((Ss54.2.2.1.ext E57).keep Kq60 (ninS (Nat.ne_of_lt (Nat.lt_of_lt_of_le (Nat.lt_of_lt_of_le lt_x38 (Nat.le_trans (Nat.le_trans (Nat.le_trans (Nat.le_trans Kq41.1 Kq44.1) Kq47.1) E51.1) Kq54.1)) (Nat.le_of_eq g57.symm))) (ninS (Nat.ne_of_lt (Nat.lt_of_lt_of_le (Nat.lt_of_lt_of_le lt_x38 Kq41.1) gx44)) (ninS (Nat.ne_of_lt (Nat.lt_of_lt_of_le (Nat.lt_of_lt_of_le lt_x38 (Nat.le_trans Kq41.1 Kq44.1)) gx47)) nin0)))), ((Ss54.2.2.2.1.ext E57).keep Kq60 (ninS (Nat.ne_of_lt (Nat.lt_of_lt_of_le (Nat.lt_of_lt_of_le lt_t38 (Nat.le_trans (Nat.le_trans (Nat.le_trans (Nat.le_trans Kq41.1 Kq44.1) Kq47.1) E51.1) Kq54.1)) (Nat.le_of_eq g57.symm))) (ninS (Nat.ne_of_lt (Nat.lt_of_lt_of_le (Nat.lt_of_lt_of_le lt_t38 Kq41.1) gx44)) (ninS (Nat.ne_of_lt (Nat.lt_of_lt_of_le (Nat.lt_of_lt_of_le lt_t38 (Nat.le_trans Kq41.1 Kq44.1)) gx47)) nin0)))), Ss54.2.2.2.2.1, Ss54.2.2.2.2.2⟩ ⟨((Sm54.1.ext E57).keep Kq60), ((Sm54.2.1.ext E57).keep Kq60 (ninS (Nat.ne_of_lt (Nat.lt_of_lt_of_le (Nat.lt_of_lt_of_le lt_x41 (Nat.le_trans (Nat.le_trans (Nat.le_trans Kq44.1 Kq47.1) E51.1) Kq54.1)) (Nat.le_of_eq g57.symm))) (ninS (Nat.ne_of_lt (Nat.lt_of_lt_of_le lt_x41 gx44)) (ninS (Nat.ne_of_lt (Nat.lt_of_lt_of_le (Nat.lt_of_lt_of_le lt_x41 Kq44.1) gx47)) nin0)))), ((Sm54.2.2.1.ext E57).keep Kq60 (ninS (Nat.ne_of_lt (Nat.lt_of_lt_of_le (Nat.lt_of_lt_of_le lt_x41 (Nat.le_trans (Nat.le_trans (Nat.le_trans Kq44.1 Kq47.1) E51.1) Kq54.1)) (Nat.le_of_eq g57.symm))) (ninS (Nat.ne_of_lt (Nat.lt_of_lt_of_le lt_x41 gx44)) (ninS (Nat.ne_of_lt (Nat.lt_of_lt_of_le (Nat.lt_of_lt_of_le lt_x41 Kq44.1) gx47)) nin0)))), ((Sm54.2.2.2.1.ext E57).keep Kq60 (ninS (Nat.ne_of_lt (Nat.lt_of_lt_of_le (Nat.lt_of_lt_of_le lt_t41 (Nat.le_trans (Nat.le_trans (Nat.le_trans Kq44.1 Kq47.1) E51.1) Kq54.1)) (Nat.le_of_eq g57.symm))) (ninS (Nat.ne_of_lt (Nat.lt_of_lt_of_le lt_t41 gx44)) (ninS (Nat.ne_of_lt (Nat.lt_of_lt_of_le (Nat.lt_of_lt_of_le lt_t41 Kq44.1) gx47)) nin0)))), Sm54.2.2.2.2.1, Sm54.2.2.2.2.2⟩ ⟨Ss60.1, Ss60.2.1, Ss60.2.2.1, Ss60.2.2.2.1, Ss60.2.2.2.2.1, Ss60.2.2.2.2.2⟩ ⟨Sm60.1, Sm60.2.1, Sm60.2.2.1, Sm60.2.2.2.1, Sm60.2.2.2.2.1, Sm60.2.2.2.2.2⟩ O2 P5 ((((((((X00.keep Kq38 all0).keep Kq41 all0).keep Kq44 all0).keep Kq47 all0).ext E51).keep Kq54 (allS (Nat.le_trans Z0 (Nat.le_trans K47.1 (Nat.le_of_eq g51.symm))) (allS (Nat.le_trans Z0 (Nat.le_trans K0.1 gx38)) (allS (Nat.le_trans Z0 (Nat.le_trans K38.1 gx41)) all0)))).ext E57).keep Kq60 (allS (Nat.le_trans Z0 (Nat.le_trans K54.1 (Nat.le_of_eq g57.symm))) (allS (Nat.le_trans Z0 (Nat.le_trans K41.1 gx44)) (allS (Nat.le_trans Z0 (Nat.le_trans K44.1 gx47)) all0))))) hZ60 (hw _ (List.mem_of_getElem? (i := 91) rfl)) (hw _ (List.mem_of_getElem? (i := 39) rfl)) (by decide) (by decide)) q86a q86c (g := (mkF m 362 #[.val (.int p0), .val (.int p1), .val (.int p2), .val (.int p3), .val (.int p4), .val (.int la), .val (.int ca), .val (.int cb), .val (.int ma), .val (.int da), .val (.int db), .val (.int lb), .val (.int ea), .val (.int eb), .val (.int mb), .val (.int fa), .val (.int fb), .val (.ref x38), .val (.ref x41), .val (.ref x44), .val (.ref x47), .val (.ref b51), .val (.ref b57), .val (.int kd), .val (.int (0 : Int32))] [(.ref b57), (.ref b51)])) rfl (by rw [hml]; rfl) (Steps.refl _) (argsL := [(.ref b57)]) (rest := []) (lenOf pd_oLjavaslangsObjectecZ rfl) rfl (by show 2 * 0 + _ ≤ _; exact Nat.le_of_eq rfl) (hb hby at_362) (fun _ _ => ⟨rfl, eq82, (by decide : 34 + 0 ≤ _), (by decide : 174 + 0 ≤ _)⟩)
          dsimp only [Pt.U, Pt.locs, Pt.cells, Pt.slots] at X86 l86 y86 z86 st86 hQ86
          subst l86 y86 z86
          obtain ⟨r86, rfl, hr86, Nq86, eq86⟩ := hQ86
          have c87 : Steps p.tables e below S0 (T86.setTop (mkF m 365 #[.val (.int p0), .val (.int p1), .val (.int p2), .val (.int p3), .val (.int p4), .val (.int la), .val (.int ca), .val (.int cb), .val (.int ma), .val (.int da), .val (.int db), .val (.int lb), .val (.int ea), .val (.int eb), .val (.int mb), .val (.int fa), .val (.int fb), .val (.ref x38), .val (.ref x41), .val (.ref x44), .val (.ref x47), .val (.ref b51), .val (.ref b57), .val (.int kd), .val (.int (0 : Int32))] [(.int r86)])) := c85.trans (st86)
          have N86 := Fr.app N82 Nq86
          have c88 : Steps p.tables e below S0 (T86.setTop (mkF m 374 #[.val (.int p0), .val (.int p1), .val (.int p2), .val (.int p3), .val (.int p4), .val (.int la), .val (.int ca), .val (.int cb), .val (.int ma), .val (.int da), .val (.int db), .val (.int lb), .val (.int ea), .val (.int eb), .val (.int mb), .val (.int fa), .val (.int fb), .val (.ref x38), .val (.ref x41), .val (.ref x44), .val (.ref x47), .val (.ref b51), .val (.ref b57), .val (.int kd), .val (.int (0 : Int32))] [(.ref b51), (.ref b57)])) := c87.trans (by
            show Steps p.tables e below (T86.setTop (mkF m 365 #[.val (.int p0), .val (.int p1), .val (.int p2), .val (.int p3), .val (.int p4), .val (.int la), .val (.int ca), .val (.int cb), .val (.int ma), .val (.int da), .val (.int db), .val (.int lb), .val (.int ea), .val (.int eb), .val (.int mb), .val (.int fa), .val (.int fb), .val (.ref x38), .val (.ref x41), .val (.ref x44), .val (.ref x47), .val (.ref b51), .val (.ref b57), .val (.int kd), .val (.int (0 : Int32))] [(.int r86)])) _
            refine XS.iload X86.here hx rfl (hb hby at_365) rfl ?_
            refine XS.icmpNo X86.here hx rfl (hb hby at_367) rfl (teq (own_tfeq hr86 (Or.inr ⟨rfl, fun q => own_n hr82 hq84 q.1⟩))).2 ?_
            refine XS.aload X86.here hx rfl (hb hby at_370) rfl rfl ?_
            refine XS.aload X86.here hx rfl (hb hby at_372) rfl rfl ?_
            exact Steps.refl _)
          obtain ⟨cq89, kq89, q89a, q89b, q89c⟩ := isOf hZ60 eq86 Ei60
          obtain ⟨_, _, ⟨T89, L89, kk89, nn89⟩, -, X89, ⟨Lc89, hQ89, l89, y89, z89⟩, st89⟩ := X86.virtualBack hx (y := (⟨"com/example/evenkeel/evenkeel/Route", "equals", "(Ljava/lang/Object;)Z"⟩ : MethodName)) (z := (⟨"com/example/evenkeel/evenkeel/Route", "equals", "(Ljava/lang/Object;)Z"⟩ : MethodName)) hown60 (mvT hZ60 (hw _ (List.mem_of_getElem? (i := 87) rfl))) (mvT hZ60 (hw _ (List.mem_of_getElem? (i := 88) rfl))) (notFace_of_selects (args := #[]) (mvT hZ60 (hw _ (List.mem_of_getElem? (i := 90) rfl)))) (mvT hZ60 (hw _ (List.mem_of_getElem? (i := 90) rfl))) (mvT hZ60 (hw _ (List.mem_of_getElem? (i := 89) rfl))) (by decide) (backOf (W := 0) (rmEq l Z a0 hw [] b57 b51 x44 t44 x47 t47 x38 t38 x41 t41 kb44 kb47 kb38 kb41 (own_mk lb ea eb) (own_mk mb fa fb) (own_mk la ca cb) (own_mk ma da db) G1 T60.heap n0 z60 ((Ei54.ext E57).keep Kq60) Fa60 Fb60 Fh60 ((Fa54.ext E57).keep Kq60 (ninS (Nat.ne_of_lt (Nat.lt_of_lt_of_le (Nat.lt_of_lt_of_le lt_b51 Kq54.1) (Nat.le_of_eq g57.symm))) (ninS (Ne.symm (Nat.ne_of_lt (Nat.lt_of_lt_of_le (Nat.lt_of_lt_of_le lt_x44 Kq47.1) (Nat.le_of_eq g51.symm)))) (ninS (Ne.symm (Nat.ne_of_lt (Nat.lt_of_lt_of_le lt_x47 (Nat.le_of_eq g51.symm)))) nin0)))) ((Fb54.ext E57).keep Kq60 (ninS (Nat.ne_of_lt (Nat.lt_of_lt_of_le (Nat.lt_of_lt_of_le lt_b51 Kq54.1) (Nat.le_of_eq g57.symm))) (ninS (Ne.symm (Nat.ne_of_lt (Nat.lt_of_lt_of_le (Nat.lt_of_lt_of_le lt_x44 Kq47.1) (Nat.le_of_eq g51.symm)))) (ninS (Ne.symm (Nat.ne_of_lt (Nat.lt_of_lt_of_le lt_x47 (Nat.le_of_eq g51.symm)))) nin0)))) ((Fh54.ext E57).keep Kq60 (ninS (Nat.ne_of_lt (Nat.lt_of_lt_of_le (Nat.lt_of_lt_of_le lt_b51 Kq54.1) (Nat.le_of_eq g57.symm))) (ninS (Ne.symm (Nat.ne_of_lt (Nat.lt_of_lt_of_le (Nat.lt_of_lt_of_le lt_x44 Kq47.1) (Nat.le_of_eq g51.symm)))) (ninS (Ne.symm (Nat.ne_of_lt (Nat.lt_of_lt_of_le lt_x47 (Nat.le_of_eq g51.symm)))) nin0)))) ⟨Ss60.1, Ss60.2.1, Ss60.2.2.1, Ss60.2.2.2.1, Ss60.2.2.2.2.1, Ss60.2.2.2.2.2⟩ ⟨Sm60.1, Sm60.2.1, Sm60.2.2.1, Sm60.2.2.2.1, Sm60.2.2.2.2.1, Sm60.2.2.2.2.2⟩ ⟨((Ss54.1.ext E57).keep Kq60), ((Ss54.2.1.ext E57).keep Kq60 (ninS (Nat.ne_of_lt (Nat.lt_of_lt_of_le (Nat.lt_of_lt_of_le lt_x38 (Nat.le_trans (Nat.le_trans (Nat.le_trans (Nat.le_trans Kq41.1 Kq44.1) Kq47.1) E51.1) Kq54.1)) (Nat.le_of_eq g57.symm))) (ninS (Nat.ne_of_lt (Nat.lt_of_lt_of_le (Nat.lt_of_lt_of_le lt_x38 Kq41.1) gx44)) (ninS (Nat.ne_of_lt (Nat.lt_of_lt_of_le (Nat.lt_of_lt_of_le lt_x38 (Nat.le_trans Kq41.1 Kq44.1)) gx47)) nin0)))), ((Ss54.2.2.1.ext E57).keep Kq60 (ninS (Nat.ne_of_lt (Nat.lt_of_lt_of_le (Nat.lt_of_lt_of_le lt_x38 (Nat.le_trans (Nat.le_trans (Nat.le_trans (Nat.le_trans Kq41.1 Kq44.1) Kq47.1) E51.1) Kq54.1)) (Nat.le_of_eq g57.symm))) (ninS (Nat.ne_of_lt (Nat.lt_of_lt_of_le (Nat.lt_of_lt_of_le lt_x38 Kq41.1) gx44)) (ninS (Nat.ne_of_lt (Nat.lt_of_lt_of_le (Nat.lt_of_lt_of_le lt_x38 (Nat.le_trans Kq41.1 Kq44.1)) gx47)) nin0)))), ((Ss54.2.2.2.1.ext E57).keep Kq60 (ninS (Nat.ne_of_lt (Nat.lt_of_lt_of_le (Nat.lt_of_lt_of_le lt_t38 (Nat.le_trans (Nat.le_trans (Nat.le_trans (Nat.le_trans Kq41.1 Kq44.1) Kq47.1) E51.1) Kq54.1)) (Nat.le_of_eq g57.symm))) (ninS (Nat.ne_of_lt (Nat.lt_of_lt_of_le (Nat.lt_of_lt_of_le lt_t38 Kq41.1) gx44)) (ninS (Nat.ne_of_lt (Nat.lt_of_lt_of_le (Nat.lt_of_lt_of_le lt_t38 (Nat.le_trans Kq41.1 Kq44.1)) gx47)) nin0)))), Ss54.2.2.2.2.1, Ss54.2.2.2.2.2⟩ ⟨((Sm54.1.ext E57).keep Kq60), ((Sm54.2.1.ext E57).keep Kq60 (ninS (Nat.ne_of_lt (Nat.lt_of_lt_of_le (Nat.lt_of_lt_of_le lt_x41 (Nat.le_trans (Nat.le_trans (Nat.le_trans Kq44.1 Kq47.1) E51.1) Kq54.1)) (Nat.le_of_eq g57.symm))) (ninS (Nat.ne_of_lt (Nat.lt_of_lt_of_le lt_x41 gx44)) (ninS (Nat.ne_of_lt (Nat.lt_of_lt_of_le (Nat.lt_of_lt_of_le lt_x41 Kq44.1) gx47)) nin0)))), ((Sm54.2.2.1.ext E57).keep Kq60 (ninS (Nat.ne_of_lt (Nat.lt_of_lt_of_le (Nat.lt_of_lt_of_le lt_x41 (Nat.le_trans (Nat.le_trans (Nat.le_trans Kq44.1 Kq47.1) E51.1) Kq54.1)) (Nat.le_of_eq g57.symm))) (ninS (Nat.ne_of_lt (Nat.lt_of_lt_of_le lt_x41 gx44)) (ninS (Nat.ne_of_lt (Nat.lt_of_lt_of_le (Nat.lt_of_lt_of_le lt_x41 Kq44.1) gx47)) nin0)))), ((Sm54.2.2.2.1.ext E57).keep Kq60 (ninS (Nat.ne_of_lt (Nat.lt_of_lt_of_le (Nat.lt_of_lt_of_le lt_t41 (Nat.le_trans (Nat.le_trans (Nat.le_trans Kq44.1 Kq47.1) E51.1) Kq54.1)) (Nat.le_of_eq g57.symm))) (ninS (Nat.ne_of_lt (Nat.lt_of_lt_of_le lt_t41 gx44)) (ninS (Nat.ne_of_lt (Nat.lt_of_lt_of_le (Nat.lt_of_lt_of_le lt_t41 Kq44.1) gx47)) nin0)))), Sm54.2.2.2.2.1, Sm54.2.2.2.2.2⟩ O2 P5 ((((((((X00.keep Kq38 all0).keep Kq41 all0).keep Kq44 all0).keep Kq47 all0).ext E51).keep Kq54 (allS (Nat.le_trans Z0 (Nat.le_trans K47.1 (Nat.le_of_eq g51.symm))) (allS (Nat.le_trans Z0 (Nat.le_trans K0.1 gx38)) (allS (Nat.le_trans Z0 (Nat.le_trans K38.1 gx41)) all0)))).ext E57).keep Kq60 (allS (Nat.le_trans Z0 (Nat.le_trans K54.1 (Nat.le_of_eq g57.symm))) (allS (Nat.le_trans Z0 (Nat.le_trans K41.1 gx44)) (allS (Nat.le_trans Z0 (Nat.le_trans K44.1 gx47)) all0))))) hZ60 (hw _ (List.mem_of_getElem? (i := 91) rfl)) (hw _ (List.mem_of_getElem? (i := 39) rfl)) (by decide) (by decide)) q89a q89c (g := (mkF m 374 #[.val (.int p0), .val (.int p1), .val (.int p2), .val (.int p3), .val (.int p4), .val (.int la), .val (.int ca), .val (.int cb), .val (.int ma), .val (.int da), .val (.int db), .val (.int lb), .val (.int ea), .val (.int eb), .val (.int mb), .val (.int fa), .val (.int fb), .val (.ref x38), .val (.ref x41), .val (.ref x44), .val (.ref x47), .val (.ref b51), .val (.ref b57), .val (.int kd), .val (.int (0 : Int32))] [(.ref b51), (.ref b57)])) rfl (by rw [hml]; rfl) (Steps.refl _) (argsL := [(.ref b51)]) (rest := []) (lenOf pd_oLjavaslangsObjectecZ rfl) rfl (by show 2 * 0 + _ ≤ _; exact Nat.le_of_eq rfl) (hb hby at_374) (fun _ _ => ⟨rfl, eq86, (by decide : 34 + 0 ≤ _), (by decide : 174 + 0 ≤ _)⟩)
          dsimp only [Pt.U, Pt.locs, Pt.cells, Pt.slots] at X89 l89 y89 z89 st89 hQ89
          subst l89 y89 z89
          obtain ⟨r89, rfl, hr89, Nq89, eq89⟩ := hQ89
          have c90 : Steps p.tables e below S0 (T89.setTop (mkF m 377 #[.val (.int p0), .val (.int p1), .val (.int p2), .val (.int p3), .val (.int p4), .val (.int la), .val (.int ca), .val (.int cb), .val (.int ma), .val (.int da), .val (.int db), .val (.int lb), .val (.int ea), .val (.int eb), .val (.int mb), .val (.int fa), .val (.int fb), .val (.ref x38), .val (.ref x41), .val (.ref x44), .val (.ref x47), .val (.ref b51), .val (.ref b57), .val (.int kd), .val (.int (0 : Int32))] [(.int r89)])) := c88.trans (st89)
          have N89 := Fr.app N86 Nq89
          have c91 : Steps p.tables e below S0 (T89.setTop (mkF m 387 #[.val (.int p0), .val (.int p1), .val (.int p2), .val (.int p3), .val (.int p4), .val (.int la), .val (.int ca), .val (.int cb), .val (.int ma), .val (.int da), .val (.int db), .val (.int lb), .val (.int ea), .val (.int eb), .val (.int mb), .val (.int fa), .val (.int fb), .val (.ref x38), .val (.ref x41), .val (.ref x44), .val (.ref x47), .val (.ref b51), .val (.ref b57), .val (.int kd), .val (.int (0 : Int32))] [(.int (1 : Int32))])) := c90.trans (by
            show Steps p.tables e below (T89.setTop (mkF m 377 #[.val (.int p0), .val (.int p1), .val (.int p2), .val (.int p3), .val (.int p4), .val (.int la), .val (.int ca), .val (.int cb), .val (.int ma), .val (.int da), .val (.int db), .val (.int lb), .val (.int ea), .val (.int eb), .val (.int mb), .val (.int fa), .val (.int fb), .val (.ref x38), .val (.ref x41), .val (.ref x44), .val (.ref x47), .val (.ref b51), .val (.ref b57), .val (.int kd), .val (.int (0 : Int32))] [(.int r89)])) _
            refine XS.iload X89.here hx rfl (hb hby at_377) rfl ?_
            refine XS.icmpNo X89.here hx rfl (hb hby at_379) rfl (teq (own_tfeq (own_tfsw hr89) (Or.inr ⟨rfl, fun q => own_n hr82 hq84 q.1⟩))).2 ?_
            refine XS.iconst X89.here hx rfl (hb hby at_382) ?_
            refine XS.goto X89.here hx rfl (pc0 := 383) (pc' := 387) rfl (hb hby at_383) (by decide) (by decide) ?_
            exact Steps.refl _)
          obtain ⟨fs, hr, hrun, hended, hW⟩ := X89.leaveW hS60 (by rw [eq89]; exact (Nat.le_refl _)) (v := some (.int (1 : Int32))) (fun h => by rw [Bd.returns] at h; cases h)
          refine ⟨_, _, c91.trans (retOut X89 hx Bd.returns rfl (Or.inl ⟨rfl, by simp, _, rfl⟩) (hb hby at_387) hr), hrun, hended, _, _, rfl, ?_, ?_, hW.1, hW.2.1, hW.2.2.1, hW.2.2.2.mono (by first | decide | exact Nat.le_of_ble_eq_true rfl) (by first | decide | exact Nat.le_of_ble_eq_true rfl)⟩
          · show Q0 Z  h0 n0 _ T89.heap _
            rw [eq89]
            exact ⟨rfl, N89⟩
          · show CHr Z EL0 s.vm s.heap T89.vm T89.heap
            rw [hh, eq89]; exact R60.trans (CHv.at X89 hZ60 hEL R60.1)
        · have c92 : Steps p.tables e below S0 (T82.setTop (mkF m 345 #[.val (.int p0), .val (.int p1), .val (.int p2), .val (.int p3), .val (.int p4), .val (.int la), .val (.int ca), .val (.int cb), .val (.int ma), .val (.int da), .val (.int db), .val (.int lb), .val (.int ea), .val (.int eb), .val (.int mb), .val (.int fa), .val (.int fb), .val (.ref x38), .val (.ref x41), .val (.ref x44), .val (.ref x47), .val (.ref b51), .val (.ref b57), .val (.int kd), .unset] [(.int fb), (.int fa), (.int mb), (.int db), (.int da), (.int ma)])) := c83.trans (by
            show Steps p.tables e below (T82.setTop (mkF m 330 #[.val (.int p0), .val (.int p1), .val (.int p2), .val (.int p3), .val (.int p4), .val (.int la), .val (.int ca), .val (.int cb), .val (.int ma), .val (.int da), .val (.int db), .val (.int lb), .val (.int ea), .val (.int eb), .val (.int mb), .val (.int fa), .val (.int fb), .val (.ref x38), .val (.ref x41), .val (.ref x44), .val (.ref x47), .val (.ref b51), .val (.ref b57), .val (.int kd), .unset] [(.int r82)])) _
            refine XS.ifNo X82.here hx rfl (hb hby at_330) rfl ((if0 _ _).trans (feq hq84).1) ?_
            refine XS.iload X82.here hx rfl (hb hby at_333) rfl ?_
            refine XS.iload X82.here hx rfl (hb hby at_335) rfl ?_
            refine XS.iload X82.here hx rfl (hb hby at_337) rfl ?_
            show Steps p.tables e below (T82.setTop (mkF m 339 #[.val (.int p0), .val (.int p1), .val (.int p2), .val (.int p3), .val (.int p4), .val (.int la), .val (.int ca), .val (.int cb), .val (.int ma), .val (.int da), .val (.int db), .val (.int lb), .val (.int ea), .val (.int eb), .val (.int mb), .val (.int fa), .val (.int fb), .val (.ref x38), .val (.ref x41), .val (.ref x44), .val (.ref x47), .val (.ref b51), .val (.ref b57), .val (.int kd), .unset] [(.int db), (.int da), (.int ma)])) _
            refine XS.iload X82.here hx rfl (hb hby at_339) rfl ?_
            refine XS.iload X82.here hx rfl (hb hby at_341) rfl ?_
            refine XS.iload X82.here hx rfl (hb hby at_343) rfl ?_
            exact Steps.refl _)
          obtain ⟨_, _, ⟨T93, L93, kk93, nn93⟩, -, X93, ⟨Lc93, hQ93, l93, y93, z93⟩, st93⟩ := Jvm.LawKit.callS X82 hx (y := (⟨"com/example/evenkeel/evenkeel/RouteEqualsPinLaw", "same", "(IIIIII)Z"⟩ : MethodName)) hown60 (mvT hZ60 (hw _ (List.mem_of_getElem? (i := 84) rfl))) (mvT hZ60 (hw _ (List.mem_of_getElem? (i := 85) rfl))) (mvT hZ60 (hw _ (List.mem_of_getElem? (i := 2) rfl))) (mvT hZ60 (hw _ (List.mem_of_getElem? (i := 86) rfl))) (by decide) (backOf (W := 0) (rmSame l Z a0 hw [] ma da db mb fa fb T60.heap n0 z60 l3ma l3mb) hZ60 (hw _ (List.mem_of_getElem? (i := 86) rfl)) (hw _ (List.mem_of_getElem? (i := 2) rfl)) (by decide) (by decide)) (g := (mkF m 345 #[.val (.int p0), .val (.int p1), .val (.int p2), .val (.int p3), .val (.int p4), .val (.int la), .val (.int ca), .val (.int cb), .val (.int ma), .val (.int da), .val (.int db), .val (.int lb), .val (.int ea), .val (.int eb), .val (.int mb), .val (.int fa), .val (.int fb), .val (.ref x38), .val (.ref x41), .val (.ref x44), .val (.ref x47), .val (.ref b51), .val (.ref b57), .val (.int kd), .unset] [(.int fb), (.int fa), (.int mb), (.int db), (.int da), (.int ma)])) rfl (by rw [hml]; rfl) (argsL := [(.int ma), (.int da), (.int db), (.int mb), (.int fa), (.int fb)]) (rest := []) (lenOf pd_oIIIIIIcZ rfl) rfl (by show 2 * 0 + _ ≤ _; exact Nat.le_of_eq rfl) (hb hby at_345) (fun _ _ => ⟨rfl, eq82, (by decide : 34 + 0 ≤ _), (by decide : 174 + 0 ≤ _)⟩)
          dsimp only [Pt.U, Pt.locs, Pt.cells, Pt.slots] at X93 l93 y93 z93 st93 hQ93
          subst l93 y93 z93
          obtain ⟨r93, rfl, hr93, Nq93, eq93⟩ := hQ93
          have c94 : Steps p.tables e below S0 (T93.setTop (mkF m 348 #[.val (.int p0), .val (.int p1), .val (.int p2), .val (.int p3), .val (.int p4), .val (.int la), .val (.int ca), .val (.int cb), .val (.int ma), .val (.int da), .val (.int db), .val (.int lb), .val (.int ea), .val (.int eb), .val (.int mb), .val (.int fa), .val (.int fb), .val (.ref x38), .val (.ref x41), .val (.ref x44), .val (.ref x47), .val (.ref b51), .val (.ref b57), .val (.int kd), .unset] [(.int r93)])) := c92.trans (st93 _ (Steps.refl _))
          have N93 := Fr.app N82 Nq93
          by_cases hq95 : r93 = (0 : Int32)
          · have c96 : Steps p.tables e below S0 (T93.setTop (mkF m 362 #[.val (.int p0), .val (.int p1), .val (.int p2), .val (.int p3), .val (.int p4), .val (.int la), .val (.int ca), .val (.int cb), .val (.int ma), .val (.int da), .val (.int db), .val (.int lb), .val (.int ea), .val (.int eb), .val (.int mb), .val (.int fa), .val (.int fb), .val (.ref x38), .val (.ref x41), .val (.ref x44), .val (.ref x47), .val (.ref b51), .val (.ref b57), .val (.int kd), .val (.int (0 : Int32))] [(.ref b57), (.ref b51)])) := c94.trans (by
              show Steps p.tables e below (T93.setTop (mkF m 348 #[.val (.int p0), .val (.int p1), .val (.int p2), .val (.int p3), .val (.int p4), .val (.int la), .val (.int ca), .val (.int cb), .val (.int ma), .val (.int da), .val (.int db), .val (.int lb), .val (.int ea), .val (.int eb), .val (.int mb), .val (.int fa), .val (.int fb), .val (.ref x38), .val (.ref x41), .val (.ref x44), .val (.ref x47), .val (.ref b51), .val (.ref b57), .val (.int kd), .unset] [(.int r93)])) _
              refine XS.ifYes X93.here hx rfl (pc0 := 348) (pc' := 355) rfl (hb hby at_348) rfl ((if0 _ _).trans (teq hq95).1) (by decide) (by decide) ?_
              refine XS.iconst X93.here hx rfl (hb hby at_355) ?_
              refine XS.istore X93.here hx rfl (hb hby at_356) rfl (l' := #[.val (.int p0), .val (.int p1), .val (.int p2), .val (.int p3), .val (.int p4), .val (.int la), .val (.int ca), .val (.int cb), .val (.int ma), .val (.int da), .val (.int db), .val (.int lb), .val (.int ea), .val (.int eb), .val (.int mb), .val (.int fa), .val (.int fb), .val (.ref x38), .val (.ref x41), .val (.ref x44), .val (.ref x47), .val (.ref b51), .val (.ref b57), .val (.int kd), .val (.int (0 : Int32))]) rfl ?_
              refine XS.aload X93.here hx rfl (hb hby at_358) rfl rfl ?_
              show Steps p.tables e below (T93.setTop (mkF m 360 #[.val (.int p0), .val (.int p1), .val (.int p2), .val (.int p3), .val (.int p4), .val (.int la), .val (.int ca), .val (.int cb), .val (.int ma), .val (.int da), .val (.int db), .val (.int lb), .val (.int ea), .val (.int eb), .val (.int mb), .val (.int fa), .val (.int fb), .val (.ref x38), .val (.ref x41), .val (.ref x44), .val (.ref x47), .val (.ref b51), .val (.ref b57), .val (.int kd), .val (.int (0 : Int32))] [(.ref b51)])) _
              refine XS.aload X93.here hx rfl (hb hby at_360) rfl rfl ?_
              exact Steps.refl _)
            obtain ⟨cq97, kq97, q97a, q97b, q97c⟩ := isOf hZ60 eq93 ((Ei54.ext E57).keep Kq60)
            obtain ⟨_, _, ⟨T97, L97, kk97, nn97⟩, -, X97, ⟨Lc97, hQ97, l97, y97, z97⟩, st97⟩ := X93.virtualBack hx (y := (⟨"com/example/evenkeel/evenkeel/Route", "equals", "(Ljava/lang/Object;)Z"⟩ : MethodName)) (z := (⟨"com/example/evenkeel/evenkeel/Route", "equals", "(Ljava/lang/Object;)Z"⟩ : MethodName)) hown60 (mvT hZ60 (hw _ (List.mem_of_getElem? (i := 87) rfl))) (mvT hZ60 (hw _ (List.mem_of_getElem? (i := 88) rfl))) (notFace_of_selects (args := #[]) (mvT hZ60 (hw _ (List.mem_of_getElem? (i := 90) rfl)))) (mvT hZ60 (hw _ (List.mem_of_getElem? (i := 90) rfl))) (mvT hZ60 (hw _ (List.mem_of_getElem? (i := 89) rfl))) (by decide) (backOf (W := 0) (rmEq l Z a0 hw [] b51 b57 x38 t38 x41 t41 x44 t44 x47 t47 kb38 kb41 kb44 kb47 (own_mk la ca cb) (own_mk ma da db) (own_mk lb ea eb) (own_mk mb fa fb) G1 T60.heap n0 z60 Ei60 ((Fa54.ext E57).keep Kq60 (ninS (Nat.ne_of_lt (Nat.lt_of_lt_of_le (Nat.lt_of_lt_of_le lt_b51 Kq54.1) (Nat.le_of_eq g57.symm))) (ninS (Ne.symm (Nat.ne_of_lt (Nat.lt_of_lt_of_le (Nat.lt_of_lt_of_le lt_x44 Kq47.1) (Nat.le_of_eq g51.symm)))) (ninS (Ne.symm (Nat.ne_of_lt (Nat.lt_of_lt_of_le lt_x47 (Nat.le_of_eq g51.symm)))) nin0)))) ((Fb54.ext E57).keep Kq60 (ninS (Nat.ne_of_lt (Nat.lt_of_lt_of_le (Nat.lt_of_lt_of_le lt_b51 Kq54.1) (Nat.le_of_eq g57.symm))) (ninS (Ne.symm (Nat.ne_of_lt (Nat.lt_of_lt_of_le (Nat.lt_of_lt_of_le lt_x44 Kq47.1) (Nat.le_of_eq g51.symm)))) (ninS (Ne.symm (Nat.ne_of_lt (Nat.lt_of_lt_of_le lt_x47 (Nat.le_of_eq g51.symm)))) nin0)))) ((Fh54.ext E57).keep Kq60 (ninS (Nat.ne_of_lt (Nat.lt_of_lt_of_le (Nat.lt_of_lt_of_le lt_b51 Kq54.1) (Nat.le_of_eq g57.symm))) (ninS (Ne.symm (Nat.ne_of_lt (Nat.lt_of_lt_of_le (Nat.lt_of_lt_of_le lt_x44 Kq47.1) (Nat.le_of_eq g51.symm)))) (ninS (Ne.symm (Nat.ne_of_lt (Nat.lt_of_lt_of_le lt_x47 (Nat.le_of_eq g51.symm)))) nin0)))) Fa60 Fb60 Fh60 ⟨((Ss54.1.ext E57).keep Kq60), ((Ss54.2.1.ext E57).keep Kq60 (ninS (Nat.ne_of_lt (Nat.lt_of_lt_of_le (Nat.lt_of_lt_of_le lt_x38 (Nat.le_trans (Nat.le_trans (Nat.le_trans (Nat.le_trans Kq41.1 Kq44.1) Kq47.1) E51.1) Kq54.1)) (Nat.le_of_eq g57.symm))) (ninS (Nat.ne_of_lt (Nat.lt_of_lt_of_le (Nat.lt_of_lt_of_le lt_x38 Kq41.1) gx44)) (ninS (Nat.ne_of_lt (Nat.lt_of_lt_of_le (Nat.lt_of_lt_of_le lt_x38 (Nat.le_trans Kq41.1 Kq44.1)) gx47)) nin0)))), ((Ss54.2.2.1.ext E57).keep Kq60 (ninS (Nat.ne_of_lt (Nat.lt_of_lt_of_le (Nat.lt_of_lt_of_le lt_x38 (Nat.le_trans (Nat.le_trans (Nat.le_trans (Nat.le_trans Kq41.1 Kq44.1) Kq47.1) E51.1) Kq54.1)) (Nat.le_of_eq g57.symm))) (ninS (Nat.ne_of_lt (Nat.lt_of_lt_of_le (Nat.lt_of_lt_of_le lt_x38 Kq41.1) gx44)) (ninS (Nat.ne_of_lt (Nat.lt_of_lt_of_le (Nat.lt_of_lt_of_le lt_x38 (Nat.le_trans Kq41.1 Kq44.1)) gx47)) nin0)))), ((Ss54.2.2.2.1.ext E57).keep Kq60 (ninS (Nat.ne_of_lt (Nat.lt_of_lt_of_le (Nat.lt_of_lt_of_le lt_t38 (Nat.le_trans (Nat.le_trans (Nat.le_trans (Nat.le_trans Kq41.1 Kq44.1) Kq47.1) E51.1) Kq54.1)) (Nat.le_of_eq g57.symm))) (ninS (Nat.ne_of_lt (Nat.lt_of_lt_of_le (Nat.lt_of_lt_of_le lt_t38 Kq41.1) gx44)) (ninS (Nat.ne_of_lt (Nat.lt_of_lt_of_le (Nat.lt_of_lt_of_le lt_t38 (Nat.le_trans Kq41.1 Kq44.1)) gx47)) nin0)))), Ss54.2.2.2.2.1, Ss54.2.2.2.2.2⟩ ⟨((Sm54.1.ext E57).keep Kq60), ((Sm54.2.1.ext E57).keep Kq60 (ninS (Nat.ne_of_lt (Nat.lt_of_lt_of_le (Nat.lt_of_lt_of_le lt_x41 (Nat.le_trans (Nat.le_trans (Nat.le_trans Kq44.1 Kq47.1) E51.1) Kq54.1)) (Nat.le_of_eq g57.symm))) (ninS (Nat.ne_of_lt (Nat.lt_of_lt_of_le lt_x41 gx44)) (ninS (Nat.ne_of_lt (Nat.lt_of_lt_of_le (Nat.lt_of_lt_of_le lt_x41 Kq44.1) gx47)) nin0)))), ((Sm54.2.2.1.ext E57).keep Kq60 (ninS (Nat.ne_of_lt (Nat.lt_of_lt_of_le (Nat.lt_of_lt_of_le lt_x41 (Nat.le_trans (Nat.le_trans (Nat.le_trans Kq44.1 Kq47.1) E51.1) Kq54.1)) (Nat.le_of_eq g57.symm))) (ninS (Nat.ne_of_lt (Nat.lt_of_lt_of_le lt_x41 gx44)) (ninS (Nat.ne_of_lt (Nat.lt_of_lt_of_le (Nat.lt_of_lt_of_le lt_x41 Kq44.1) gx47)) nin0)))), ((Sm54.2.2.2.1.ext E57).keep Kq60 (ninS (Nat.ne_of_lt (Nat.lt_of_lt_of_le (Nat.lt_of_lt_of_le lt_t41 (Nat.le_trans (Nat.le_trans (Nat.le_trans Kq44.1 Kq47.1) E51.1) Kq54.1)) (Nat.le_of_eq g57.symm))) (ninS (Nat.ne_of_lt (Nat.lt_of_lt_of_le lt_t41 gx44)) (ninS (Nat.ne_of_lt (Nat.lt_of_lt_of_le (Nat.lt_of_lt_of_le lt_t41 Kq44.1) gx47)) nin0)))), Sm54.2.2.2.2.1, Sm54.2.2.2.2.2⟩ ⟨Ss60.1, Ss60.2.1, Ss60.2.2.1, Ss60.2.2.2.1, Ss60.2.2.2.2.1, Ss60.2.2.2.2.2⟩ ⟨Sm60.1, Sm60.2.1, Sm60.2.2.1, Sm60.2.2.2.1, Sm60.2.2.2.2.1, Sm60.2.2.2.2.2⟩ O2 P5 ((((((((X00.keep Kq38 all0).keep Kq41 all0).keep Kq44 all0).keep Kq47 all0).ext E51).keep Kq54 (allS (Nat.le_trans Z0 (Nat.le_trans K47.1 (Nat.le_of_eq g51.symm))) (allS (Nat.le_trans Z0 (Nat.le_trans K0.1 gx38)) (allS (Nat.le_trans Z0 (Nat.le_trans K38.1 gx41)) all0)))).ext E57).keep Kq60 (allS (Nat.le_trans Z0 (Nat.le_trans K54.1 (Nat.le_of_eq g57.symm))) (allS (Nat.le_trans Z0 (Nat.le_trans K41.1 gx44)) (allS (Nat.le_trans Z0 (Nat.le_trans K44.1 gx47)) all0))))) hZ60 (hw _ (List.mem_of_getElem? (i := 91) rfl)) (hw _ (List.mem_of_getElem? (i := 39) rfl)) (by decide) (by decide)) q97a q97c (g := (mkF m 362 #[.val (.int p0), .val (.int p1), .val (.int p2), .val (.int p3), .val (.int p4), .val (.int la), .val (.int ca), .val (.int cb), .val (.int ma), .val (.int da), .val (.int db), .val (.int lb), .val (.int ea), .val (.int eb), .val (.int mb), .val (.int fa), .val (.int fb), .val (.ref x38), .val (.ref x41), .val (.ref x44), .val (.ref x47), .val (.ref b51), .val (.ref b57), .val (.int kd), .val (.int (0 : Int32))] [(.ref b57), (.ref b51)])) rfl (by rw [hml]; rfl) (Steps.refl _) (argsL := [(.ref b57)]) (rest := []) (lenOf pd_oLjavaslangsObjectecZ rfl) rfl (by show 2 * 0 + _ ≤ _; exact Nat.le_of_eq rfl) (hb hby at_362) (fun _ _ => ⟨rfl, eq93, (by decide : 34 + 0 ≤ _), (by decide : 174 + 0 ≤ _)⟩)
            dsimp only [Pt.U, Pt.locs, Pt.cells, Pt.slots] at X97 l97 y97 z97 st97 hQ97
            subst l97 y97 z97
            obtain ⟨r97, rfl, hr97, Nq97, eq97⟩ := hQ97
            have c98 : Steps p.tables e below S0 (T97.setTop (mkF m 365 #[.val (.int p0), .val (.int p1), .val (.int p2), .val (.int p3), .val (.int p4), .val (.int la), .val (.int ca), .val (.int cb), .val (.int ma), .val (.int da), .val (.int db), .val (.int lb), .val (.int ea), .val (.int eb), .val (.int mb), .val (.int fa), .val (.int fb), .val (.ref x38), .val (.ref x41), .val (.ref x44), .val (.ref x47), .val (.ref b51), .val (.ref b57), .val (.int kd), .val (.int (0 : Int32))] [(.int r97)])) := c96.trans (st97)
            have N97 := Fr.app N93 Nq97
            have c99 : Steps p.tables e below S0 (T97.setTop (mkF m 374 #[.val (.int p0), .val (.int p1), .val (.int p2), .val (.int p3), .val (.int p4), .val (.int la), .val (.int ca), .val (.int cb), .val (.int ma), .val (.int da), .val (.int db), .val (.int lb), .val (.int ea), .val (.int eb), .val (.int mb), .val (.int fa), .val (.int fb), .val (.ref x38), .val (.ref x41), .val (.ref x44), .val (.ref x47), .val (.ref b51), .val (.ref b57), .val (.int kd), .val (.int (0 : Int32))] [(.ref b51), (.ref b57)])) := c98.trans (by
              show Steps p.tables e below (T97.setTop (mkF m 365 #[.val (.int p0), .val (.int p1), .val (.int p2), .val (.int p3), .val (.int p4), .val (.int la), .val (.int ca), .val (.int cb), .val (.int ma), .val (.int da), .val (.int db), .val (.int lb), .val (.int ea), .val (.int eb), .val (.int mb), .val (.int fa), .val (.int fb), .val (.ref x38), .val (.ref x41), .val (.ref x44), .val (.ref x47), .val (.ref b51), .val (.ref b57), .val (.int kd), .val (.int (0 : Int32))] [(.int r97)])) _
              refine XS.iload X97.here hx rfl (hb hby at_365) rfl ?_
              refine XS.icmpNo X97.here hx rfl (hb hby at_367) rfl (teq (own_tfeq hr97 (Or.inr ⟨rfl, fun q => own_n hr93 hq95 q.2⟩))).2 ?_
              refine XS.aload X97.here hx rfl (hb hby at_370) rfl rfl ?_
              refine XS.aload X97.here hx rfl (hb hby at_372) rfl rfl ?_
              exact Steps.refl _)
            obtain ⟨cq100, kq100, q100a, q100b, q100c⟩ := isOf hZ60 eq97 Ei60
            obtain ⟨_, _, ⟨T100, L100, kk100, nn100⟩, -, X100, ⟨Lc100, hQ100, l100, y100, z100⟩, st100⟩ := X97.virtualBack hx (y := (⟨"com/example/evenkeel/evenkeel/Route", "equals", "(Ljava/lang/Object;)Z"⟩ : MethodName)) (z := (⟨"com/example/evenkeel/evenkeel/Route", "equals", "(Ljava/lang/Object;)Z"⟩ : MethodName)) hown60 (mvT hZ60 (hw _ (List.mem_of_getElem? (i := 87) rfl))) (mvT hZ60 (hw _ (List.mem_of_getElem? (i := 88) rfl))) (notFace_of_selects (args := #[]) (mvT hZ60 (hw _ (List.mem_of_getElem? (i := 90) rfl)))) (mvT hZ60 (hw _ (List.mem_of_getElem? (i := 90) rfl))) (mvT hZ60 (hw _ (List.mem_of_getElem? (i := 89) rfl))) (by decide) (backOf (W := 0) (rmEq l Z a0 hw [] b57 b51 x44 t44 x47 t47 x38 t38 x41 t41 kb44 kb47 kb38 kb41 (own_mk lb ea eb) (own_mk mb fa fb) (own_mk la ca cb) (own_mk ma da db) G1 T60.heap n0 z60 ((Ei54.ext E57).keep Kq60) Fa60 Fb60 Fh60 ((Fa54.ext E57).keep Kq60 (ninS (Nat.ne_of_lt (Nat.lt_of_lt_of_le (Nat.lt_of_lt_of_le lt_b51 Kq54.1) (Nat.le_of_eq g57.symm))) (ninS (Ne.symm (Nat.ne_of_lt (Nat.lt_of_lt_of_le (Nat.lt_of_lt_of_le lt_x44 Kq47.1) (Nat.le_of_eq g51.symm)))) (ninS (Ne.symm (Nat.ne_of_lt (Nat.lt_of_lt_of_le lt_x47 (Nat.le_of_eq g51.symm)))) nin0)))) ((Fb54.ext E57).keep Kq60 (ninS (Nat.ne_of_lt (Nat.lt_of_lt_of_le (Nat.lt_of_lt_of_le lt_b51 Kq54.1) (Nat.le_of_eq g57.symm))) (ninS (Ne.symm (Nat.ne_of_lt (Nat.lt_of_lt_of_le (Nat.lt_of_lt_of_le lt_x44 Kq47.1) (Nat.le_of_eq g51.symm)))) (ninS (Ne.symm (Nat.ne_of_lt (Nat.lt_of_lt_of_le lt_x47 (Nat.le_of_eq g51.symm)))) nin0)))) ((Fh54.ext E57).keep Kq60 (ninS (Nat.ne_of_lt (Nat.lt_of_lt_of_le (Nat.lt_of_lt_of_le lt_b51 Kq54.1) (Nat.le_of_eq g57.symm))) (ninS (Ne.symm (Nat.ne_of_lt (Nat.lt_of_lt_of_le (Nat.lt_of_lt_of_le lt_x44 Kq47.1) (Nat.le_of_eq g51.symm)))) (ninS (Ne.symm (Nat.ne_of_lt (Nat.lt_of_lt_of_le lt_x47 (Nat.le_of_eq g51.symm)))) nin0)))) ⟨Ss60.1, Ss60.2.1, Ss60.2.2.1, Ss60.2.2.2.1, Ss60.2.2.2.2.1, Ss60.2.2.2.2.2⟩ ⟨Sm60.1, Sm60.2.1, Sm60.2.2.1, Sm60.2.2.2.1, Sm60.2.2.2.2.1, Sm60.2.2.2.2.2⟩ ⟨((Ss54.1.ext E57).keep Kq60), ((Ss54.2.1.ext E57).keep Kq60 (ninS (Nat.ne_of_lt (Nat.lt_of_lt_of_le (Nat.lt_of_lt_of_le lt_x38 (Nat.le_trans (Nat.le_trans (Nat.le_trans (Nat.le_trans Kq41.1 Kq44.1) Kq47.1) E51.1) Kq54.1)) (Nat.le_of_eq g57.symm))) (ninS (Nat.ne_of_lt (Nat.lt_of_lt_of_le (Nat.lt_of_lt_of_le lt_x38 Kq41.1) gx44)) (ninS (Nat.ne_of_lt (Nat.lt_of_lt_of_le (Nat.lt_of_lt_of_le lt_x38 (Nat.le_trans Kq41.1 Kq44.1)) gx47)) nin0)))), ((Ss54.2.2.1.ext E57).keep Kq60 (ninS (Nat.ne_of_lt (Nat.lt_of_lt_of_le (Nat.lt_of_lt_of_le lt_x38 (Nat.le_trans (Nat.le_trans (Nat.le_trans (Nat.le_trans Kq41.1 Kq44.1) Kq47.1) E51.1) Kq54.1)) (Nat.le_of_eq g57.symm))) (ninS (Nat.ne_of_lt (Nat.lt_of_lt_of_le (Nat.lt_of_lt_of_le lt_x38 Kq41.1) gx44)) (ninS (Nat.ne_of_lt (Nat.lt_of_lt_of_le (Nat.lt_of_lt_of_le lt_x38 (Nat.le_trans Kq41.1 Kq44.1)) gx47)) nin0)))), ((Ss54.2.2.2.1.ext E57).keep Kq60 (ninS (Nat.ne_of_lt (Nat.lt_of_lt_of_le (Nat.lt_of_lt_of_le lt_t38 (Nat.le_trans (Nat.le_trans (Nat.le_trans (Nat.le_trans Kq41.1 Kq44.1) Kq47.1) E51.1) Kq54.1)) (Nat.le_of_eq g57.symm))) (ninS (Nat.ne_of_lt (Nat.lt_of_lt_of_le (Nat.lt_of_lt_of_le lt_t38 Kq41.1) gx44)) (ninS (Nat.ne_of_lt (Nat.lt_of_lt_of_le (Nat.lt_of_lt_of_le lt_t38 (Nat.le_trans Kq41.1 Kq44.1)) gx47)) nin0)))), Ss54.2.2.2.2.1, Ss54.2.2.2.2.2⟩ ⟨((Sm54.1.ext E57).keep Kq60), ((Sm54.2.1.ext E57).keep Kq60 (ninS (Nat.ne_of_lt (Nat.lt_of_lt_of_le (Nat.lt_of_lt_of_le lt_x41 (Nat.le_trans (Nat.le_trans (Nat.le_trans Kq44.1 Kq47.1) E51.1) Kq54.1)) (Nat.le_of_eq g57.symm))) (ninS (Nat.ne_of_lt (Nat.lt_of_lt_of_le lt_x41 gx44)) (ninS (Nat.ne_of_lt (Nat.lt_of_lt_of_le (Nat.lt_of_lt_of_le lt_x41 Kq44.1) gx47)) nin0)))), ((Sm54.2.2.1.ext E57).keep Kq60 (ninS (Nat.ne_of_lt (Nat.lt_of_lt_of_le (Nat.lt_of_lt_of_le lt_x41 (Nat.le_trans (Nat.le_trans (Nat.le_trans Kq44.1 Kq47.1) E51.1) Kq54.1)) (Nat.le_of_eq g57.symm))) (ninS (Nat.ne_of_lt (Nat.lt_of_lt_of_le lt_x41 gx44)) (ninS (Nat.ne_of_lt (Nat.lt_of_lt_of_le (Nat.lt_of_lt_of_le lt_x41 Kq44.1) gx47)) nin0)))), ((Sm54.2.2.2.1.ext E57).keep Kq60 (ninS (Nat.ne_of_lt (Nat.lt_of_lt_of_le (Nat.lt_of_lt_of_le lt_t41 (Nat.le_trans (Nat.le_trans (Nat.le_trans Kq44.1 Kq47.1) E51.1) Kq54.1)) (Nat.le_of_eq g57.symm))) (ninS (Nat.ne_of_lt (Nat.lt_of_lt_of_le lt_t41 gx44)) (ninS (Nat.ne_of_lt (Nat.lt_of_lt_of_le (Nat.lt_of_lt_of_le lt_t41 Kq44.1) gx47)) nin0)))), Sm54.2.2.2.2.1, Sm54.2.2.2.2.2⟩ O2 P5 ((((((((X00.keep Kq38 all0).keep Kq41 all0).keep Kq44 all0).keep Kq47 all0).ext E51).keep Kq54 (allS (Nat.le_trans Z0 (Nat.le_trans K47.1 (Nat.le_of_eq g51.symm))) (allS (Nat.le_trans Z0 (Nat.le_trans K0.1 gx38)) (allS (Nat.le_trans Z0 (Nat.le_trans K38.1 gx41)) all0)))).ext E57).keep Kq60 (allS (Nat.le_trans Z0 (Nat.le_trans K54.1 (Nat.le_of_eq g57.symm))) (allS (Nat.le_trans Z0 (Nat.le_trans K41.1 gx44)) (allS (Nat.le_trans Z0 (Nat.le_trans K44.1 gx47)) all0))))) hZ60 (hw _ (List.mem_of_getElem? (i := 91) rfl)) (hw _ (List.mem_of_getElem? (i := 39) rfl)) (by decide) (by decide)) q100a q100c (g := (mkF m 374 #[.val (.int p0), .val (.int p1), .val (.int p2), .val (.int p3), .val (.int p4), .val (.int la), .val (.int ca), .val (.int cb), .val (.int ma), .val (.int da), .val (.int db), .val (.int lb), .val (.int ea), .val (.int eb), .val (.int mb), .val (.int fa), .val (.int fb), .val (.ref x38), .val (.ref x41), .val (.ref x44), .val (.ref x47), .val (.ref b51), .val (.ref b57), .val (.int kd), .val (.int (0 : Int32))] [(.ref b51), (.ref b57)])) rfl (by rw [hml]; rfl) (Steps.refl _) (argsL := [(.ref b51)]) (rest := []) (lenOf pd_oLjavaslangsObjectecZ rfl) rfl (by show 2 * 0 + _ ≤ _; exact Nat.le_of_eq rfl) (hb hby at_374) (fun _ _ => ⟨rfl, eq97, (by decide : 34 + 0 ≤ _), (by decide : 174 + 0 ≤ _)⟩)
            dsimp only [Pt.U, Pt.locs, Pt.cells, Pt.slots] at X100 l100 y100 z100 st100 hQ100
            subst l100 y100 z100
            obtain ⟨r100, rfl, hr100, Nq100, eq100⟩ := hQ100
            have c101 : Steps p.tables e below S0 (T100.setTop (mkF m 377 #[.val (.int p0), .val (.int p1), .val (.int p2), .val (.int p3), .val (.int p4), .val (.int la), .val (.int ca), .val (.int cb), .val (.int ma), .val (.int da), .val (.int db), .val (.int lb), .val (.int ea), .val (.int eb), .val (.int mb), .val (.int fa), .val (.int fb), .val (.ref x38), .val (.ref x41), .val (.ref x44), .val (.ref x47), .val (.ref b51), .val (.ref b57), .val (.int kd), .val (.int (0 : Int32))] [(.int r100)])) := c99.trans (st100)
            have N100 := Fr.app N97 Nq100
            have c102 : Steps p.tables e below S0 (T100.setTop (mkF m 387 #[.val (.int p0), .val (.int p1), .val (.int p2), .val (.int p3), .val (.int p4), .val (.int la), .val (.int ca), .val (.int cb), .val (.int ma), .val (.int da), .val (.int db), .val (.int lb), .val (.int ea), .val (.int eb), .val (.int mb), .val (.int fa), .val (.int fb), .val (.ref x38), .val (.ref x41), .val (.ref x44), .val (.ref x47), .val (.ref b51), .val (.ref b57), .val (.int kd), .val (.int (0 : Int32))] [(.int (1 : Int32))])) := c101.trans (by
              show Steps p.tables e below (T100.setTop (mkF m 377 #[.val (.int p0), .val (.int p1), .val (.int p2), .val (.int p3), .val (.int p4), .val (.int la), .val (.int ca), .val (.int cb), .val (.int ma), .val (.int da), .val (.int db), .val (.int lb), .val (.int ea), .val (.int eb), .val (.int mb), .val (.int fa), .val (.int fb), .val (.ref x38), .val (.ref x41), .val (.ref x44), .val (.ref x47), .val (.ref b51), .val (.ref b57), .val (.int kd), .val (.int (0 : Int32))] [(.int r100)])) _
              refine XS.iload X100.here hx rfl (hb hby at_377) rfl ?_
              refine XS.icmpNo X100.here hx rfl (hb hby at_379) rfl (teq (own_tfeq (own_tfsw hr100) (Or.inr ⟨rfl, fun q => own_n hr93 hq95 q.2⟩))).2 ?_
              refine XS.iconst X100.here hx rfl (hb hby at_382) ?_
              refine XS.goto X100.here hx rfl (pc0 := 383) (pc' := 387) rfl (hb hby at_383) (by decide) (by decide) ?_
              exact Steps.refl _)
            obtain ⟨fs, hr, hrun, hended, hW⟩ := X100.leaveW hS60 (by rw [eq100]; exact (Nat.le_refl _)) (v := some (.int (1 : Int32))) (fun h => by rw [Bd.returns] at h; cases h)
            refine ⟨_, _, c102.trans (retOut X100 hx Bd.returns rfl (Or.inl ⟨rfl, by simp, _, rfl⟩) (hb hby at_387) hr), hrun, hended, _, _, rfl, ?_, ?_, hW.1, hW.2.1, hW.2.2.1, hW.2.2.2.mono (by first | decide | exact Nat.le_of_ble_eq_true rfl) (by first | decide | exact Nat.le_of_ble_eq_true rfl)⟩
            · show Q0 Z  h0 n0 _ T100.heap _
              rw [eq100]
              exact ⟨rfl, N100⟩
            · show CHr Z EL0 s.vm s.heap T100.vm T100.heap
              rw [hh, eq100]; exact R60.trans (CHv.at X100 hZ60 hEL R60.1)
          · have c103 : Steps p.tables e below S0 (T93.setTop (mkF m 362 #[.val (.int p0), .val (.int p1), .val (.int p2), .val (.int p3), .val (.int p4), .val (.int la), .val (.int ca), .val (.int cb), .val (.int ma), .val (.int da), .val (.int db), .val (.int lb), .val (.int ea), .val (.int eb), .val (.int mb), .val (.int fa), .val (.int fb), .val (.ref x38), .val (.ref x41), .val (.ref x44), .val (.ref x47), .val (.ref b51), .val (.ref b57), .val (.int kd), .val (.int (1 : Int32))] [(.ref b57), (.ref b51)])) := c94.trans (by
              show Steps p.tables e below (T93.setTop (mkF m 348 #[.val (.int p0), .val (.int p1), .val (.int p2), .val (.int p3), .val (.int p4), .val (.int la), .val (.int ca), .val (.int cb), .val (.int ma), .val (.int da), .val (.int db), .val (.int lb), .val (.int ea), .val (.int eb), .val (.int mb), .val (.int fa), .val (.int fb), .val (.ref x38), .val (.ref x41), .val (.ref x44), .val (.ref x47), .val (.ref b51), .val (.ref b57), .val (.int kd), .unset] [(.int r93)])) _
              refine XS.ifNo X93.here hx rfl (hb hby at_348) rfl ((if0 _ _).trans (feq hq95).1) ?_
              refine XS.iconst X93.here hx rfl (hb hby at_351) ?_
              refine XS.goto X93.here hx rfl (pc0 := 352) (pc' := 356) rfl (hb hby at_352) (by decide) (by decide) ?_
              refine XS.istore X93.here hx rfl (hb hby at_356) rfl (l' := #[.val (.int p0), .val (.int p1), .val (.int p2), .val (.int p3), .val (.int p4), .val (.int la), .val (.int ca), .val (.int cb), .val (.int ma), .val (.int da), .val (.int db), .val (.int lb), .val (.int ea), .val (.int eb), .val (.int mb), .val (.int fa), .val (.int fb), .val (.ref x38), .val (.ref x41), .val (.ref x44), .val (.ref x47), .val (.ref b51), .val (.ref b57), .val (.int kd), .val (.int (1 : Int32))]) rfl ?_
              show Steps p.tables e below (T93.setTop (mkF m 358 #[.val (.int p0), .val (.int p1), .val (.int p2), .val (.int p3), .val (.int p4), .val (.int la), .val (.int ca), .val (.int cb), .val (.int ma), .val (.int da), .val (.int db), .val (.int lb), .val (.int ea), .val (.int eb), .val (.int mb), .val (.int fa), .val (.int fb), .val (.ref x38), .val (.ref x41), .val (.ref x44), .val (.ref x47), .val (.ref b51), .val (.ref b57), .val (.int kd), .val (.int (1 : Int32))] [])) _
              refine XS.aload X93.here hx rfl (hb hby at_358) rfl rfl ?_
              refine XS.aload X93.here hx rfl (hb hby at_360) rfl rfl ?_
              exact Steps.refl _)
            obtain ⟨cq104, kq104, q104a, q104b, q104c⟩ := isOf hZ60 eq93 ((Ei54.ext E57).keep Kq60)
            obtain ⟨_, _, ⟨T104, L104, kk104, nn104⟩, -, X104, ⟨Lc104, hQ104, l104, y104, z104⟩, st104⟩ := X93.virtualBack hx (y := (⟨"com/example/evenkeel/evenkeel/Route", "equals", "(Ljava/lang/Object;)Z"⟩ : MethodName)) (z := (⟨"com/example/evenkeel/evenkeel/Route", "equals", "(Ljava/lang/Object;)Z"⟩ : MethodName)) hown60 (mvT hZ60 (hw _ (List.mem_of_getElem? (i := 87) rfl))) (mvT hZ60 (hw _ (List.mem_of_getElem? (i := 88) rfl))) (notFace_of_selects (args := #[]) (mvT hZ60 (hw _ (List.mem_of_getElem? (i := 90) rfl)))) (mvT hZ60 (hw _ (List.mem_of_getElem? (i := 90) rfl))) (mvT hZ60 (hw _ (List.mem_of_getElem? (i := 89) rfl))) (by decide) (backOf (W := 0) (rmEq l Z a0 hw [] b51 b57 x38 t38 x41 t41 x44 t44 x47 t47 kb38 kb41 kb44 kb47 (own_mk la ca cb) (own_mk ma da db) (own_mk lb ea eb) (own_mk mb fa fb) G1 T60.heap n0 z60 Ei60 ((Fa54.ext E57).keep Kq60 (ninS (Nat.ne_of_lt (Nat.lt_of_lt_of_le (Nat.lt_of_lt_of_le lt_b51 Kq54.1) (Nat.le_of_eq g57.symm))) (ninS (Ne.symm (Nat.ne_of_lt (Nat.lt_of_lt_of_le (Nat.lt_of_lt_of_le lt_x44 Kq47.1) (Nat.le_of_eq g51.symm)))) (ninS (Ne.symm (Nat.ne_of_lt (Nat.lt_of_lt_of_le lt_x47 (Nat.le_of_eq g51.symm)))) nin0)))) ((Fb54.ext E57).keep Kq60 (ninS (Nat.ne_of_lt (Nat.lt_of_lt_of_le (Nat.lt_of_lt_of_le lt_b51 Kq54.1) (Nat.le_of_eq g57.symm))) (ninS (Ne.symm (Nat.ne_of_lt (Nat.lt_of_lt_of_le (Nat.lt_of_lt_of_le lt_x44 Kq47.1) (Nat.le_of_eq g51.symm)))) (ninS (Ne.symm (Nat.ne_of_lt (Nat.lt_of_lt_of_le lt_x47 (Nat.le_of_eq g51.symm)))) nin0)))) ((Fh54.ext E57).keep Kq60 (ninS (Nat.ne_of_lt (Nat.lt_of_lt_of_le (Nat.lt_of_lt_of_le lt_b51 Kq54.1) (Nat.le_of_eq g57.symm))) (ninS (Ne.symm (Nat.ne_of_lt (Nat.lt_of_lt_of_le (Nat.lt_of_lt_of_le lt_x44 Kq47.1) (Nat.le_of_eq g51.symm)))) (ninS (Ne.symm (Nat.ne_of_lt (Nat.lt_of_lt_of_le lt_x47 (Nat.le_of_eq g51.symm)))) nin0)))) Fa60 Fb60 Fh60 ⟨((Ss54.1.ext E57).keep Kq60), ((Ss54.2.1.ext E57).keep Kq60 (ninS (Nat.ne_of_lt (Nat.lt_of_lt_of_le (Nat.lt_of_lt_of_le lt_x38 (Nat.le_trans (Nat.le_trans (Nat.le_trans (Nat.le_trans Kq41.1 Kq44.1) Kq47.1) E51.1) Kq54.1)) (Nat.le_of_eq g57.symm))) (ninS (Nat.ne_of_lt (Nat.lt_of_lt_of_le (Nat.lt_of_lt_of_le lt_x38 Kq41.1) gx44)) (ninS (Nat.ne_of_lt (Nat.lt_of_lt_of_le (Nat.lt_of_lt_of_le lt_x38 (Nat.le_trans Kq41.1 Kq44.1)) gx47)) nin0)))), ((Ss54.2.2.1.ext E57).keep Kq60 (ninS (Nat.ne_of_lt (Nat.lt_of_lt_of_le (Nat.lt_of_lt_of_le lt_x38 (Nat.le_trans (Nat.le_trans (Nat.le_trans (Nat.le_trans Kq41.1 Kq44.1) Kq47.1) E51.1) Kq54.1)) (Nat.le_of_eq g57.symm))) (ninS (Nat.ne_of_lt (Nat.lt_of_lt_of_le (Nat.lt_of_lt_of_le lt_x38 Kq41.1) gx44)) (ninS (Nat.ne_of_lt (Nat.lt_of_lt_of_le (Nat.lt_of_lt_of_le lt_x38 (Nat.le_trans Kq41.1 Kq44.1)) gx47)) nin0)))), ((Ss54.2.2.2.1.ext E57).keep Kq60 (ninS (Nat.ne_of_lt (Nat.lt_of_lt_of_le (Nat.lt_of_lt_of_le lt_t38 (Nat.le_trans (Nat.le_trans (Nat.le_trans (Nat.le_trans Kq41.1 Kq44.1) Kq47.1) E51.1) Kq54.1)) (Nat.le_of_eq g57.symm))) (ninS (Nat.ne_of_lt (Nat.lt_of_lt_of_le (Nat.lt_of_lt_of_le lt_t38 Kq41.1) gx44)) (ninS (Nat.ne_of_lt (Nat.lt_of_lt_of_le (Nat.lt_of_lt_of_le lt_t38 (Nat.le_trans Kq41.1 Kq44.1)) gx47)) nin0)))), Ss54.2.2.2.2.1, Ss54.2.2.2.2.2⟩ ⟨((Sm54.1.ext E57).keep Kq60), ((Sm54.2.1.ext E57).keep Kq60 (ninS (Nat.ne_of_lt (Nat.lt_of_lt_of_le (Nat.lt_of_lt_of_le lt_x41 (Nat.le_trans (Nat.le_trans (Nat.le_trans Kq44.1 Kq47.1) E51.1) Kq54.1)) (Nat.le_of_eq g57.symm))) (ninS (Nat.ne_of_lt (Nat.lt_of_lt_of_le lt_x41 gx44)) (ninS (Nat.ne_of_lt (Nat.lt_of_lt_of_le (Nat.lt_of_lt_of_le lt_x41 Kq44.1) gx47)) nin0)))), ((Sm54.2.2.1.ext E57).keep Kq60 (ninS (Nat.ne_of_lt (Nat.lt_of_lt_of_le (Nat.lt_of_lt_of_le lt_x41 (Nat.le_trans (Nat.le_trans (Nat.le_trans Kq44.1 Kq47.1) E51.1) Kq54.1)) (Nat.le_of_eq g57.symm))) (ninS (Nat.ne_of_lt (Nat.lt_of_lt_of_le lt_x41 gx44)) (ninS (Nat.ne_of_lt (Nat.lt_of_lt_of_le (Nat.lt_of_lt_of_le lt_x41 Kq44.1) gx47)) nin0)))), ((Sm54.2.2.2.1.ext E57).keep Kq60 (ninS (Nat.ne_of_lt (Nat.lt_of_lt_of_le (Nat.lt_of_lt_of_le lt_t41 (Nat.le_trans (Nat.le_trans (Nat.le_trans Kq44.1 Kq47.1) E51.1) Kq54.1)) (Nat.le_of_eq g57.symm))) (ninS (Nat.ne_of_lt (Nat.lt_of_lt_of_le lt_t41 gx44)) (ninS (Nat.ne_of_lt (Nat.lt_of_lt_of_le (Nat.lt_of_lt_of_le lt_t41 Kq44.1) gx47)) nin0)))), Sm54.2.2.2.2.1, Sm54.2.2.2.2.2⟩ ⟨Ss60.1, Ss60.2.1, Ss60.2.2.1, Ss60.2.2.2.1, Ss60.2.2.2.2.1, Ss60.2.2.2.2.2⟩ ⟨Sm60.1, Sm60.2.1, Sm60.2.2.1, Sm60.2.2.2.1, Sm60.2.2.2.2.1, Sm60.2.2.2.2.2⟩ O2 P5 ((((((((X00.keep Kq38 all0).keep Kq41 all0).keep Kq44 all0).keep Kq47 all0).ext E51).keep Kq54 (allS (Nat.le_trans Z0 (Nat.le_trans K47.1 (Nat.le_of_eq g51.symm))) (allS (Nat.le_trans Z0 (Nat.le_trans K0.1 gx38)) (allS (Nat.le_trans Z0 (Nat.le_trans K38.1 gx41)) all0)))).ext E57).keep Kq60 (allS (Nat.le_trans Z0 (Nat.le_trans K54.1 (Nat.le_of_eq g57.symm))) (allS (Nat.le_trans Z0 (Nat.le_trans K41.1 gx44)) (allS (Nat.le_trans Z0 (Nat.le_trans K44.1 gx47)) all0))))) hZ60 (hw _ (List.mem_of_getElem? (i := 91) rfl)) (hw _ (List.mem_of_getElem? (i := 39) rfl)) (by decide) (by decide)) q104a q104c (g := (mkF m 362 #[.val (.int p0), .val (.int p1), .val (.int p2), .val (.int p3), .val (.int p4), .val (.int la), .val (.int ca), .val (.int cb), .val (.int ma), .val (.int da), .val (.int db), .val (.int lb), .val (.int ea), .val (.int eb), .val (.int mb), .val (.int fa), .val (.int fb), .val (.ref x38), .val (.ref x41), .val (.ref x44), .val (.ref x47), .val (.ref b51), .val (.ref b57), .val (.int kd), .val (.int (1 : Int32))] [(.ref b57), (.ref b51)])) rfl (by rw [hml]; rfl) (Steps.refl _) (argsL := [(.ref b57)]) (rest := []) (lenOf pd_oLjavaslangsObjectecZ rfl) rfl (by show 2 * 0 + _ ≤ _; exact Nat.le_of_eq rfl) (hb hby at_362) (fun _ _ => ⟨rfl, eq93, (by decide : 34 + 0 ≤ _), (by decide : 174 + 0 ≤ _)⟩)
            dsimp only [Pt.U, Pt.locs, Pt.cells, Pt.slots] at X104 l104 y104 z104 st104 hQ104
            subst l104 y104 z104
            obtain ⟨r104, rfl, hr104, Nq104, eq104⟩ := hQ104
            have c105 : Steps p.tables e below S0 (T104.setTop (mkF m 365 #[.val (.int p0), .val (.int p1), .val (.int p2), .val (.int p3), .val (.int p4), .val (.int la), .val (.int ca), .val (.int cb), .val (.int ma), .val (.int da), .val (.int db), .val (.int lb), .val (.int ea), .val (.int eb), .val (.int mb), .val (.int fa), .val (.int fb), .val (.ref x38), .val (.ref x41), .val (.ref x44), .val (.ref x47), .val (.ref b51), .val (.ref b57), .val (.int kd), .val (.int (1 : Int32))] [(.int r104)])) := c103.trans (st104)
            have N104 := Fr.app N93 Nq104
            have c106 : Steps p.tables e below S0 (T104.setTop (mkF m 374 #[.val (.int p0), .val (.int p1), .val (.int p2), .val (.int p3), .val (.int p4), .val (.int la), .val (.int ca), .val (.int cb), .val (.int ma), .val (.int da), .val (.int db), .val (.int lb), .val (.int ea), .val (.int eb), .val (.int mb), .val (.int fa), .val (.int fb), .val (.ref x38), .val (.ref x41), .val (.ref x44), .val (.ref x47), .val (.ref b51), .val (.ref b57), .val (.int kd), .val (.int (1 : Int32))] [(.ref b51), (.ref b57)])) := c105.trans (by
              show Steps p.tables e below (T104.setTop (mkF m 365 #[.val (.int p0), .val (.int p1), .val (.int p2), .val (.int p3), .val (.int p4), .val (.int la), .val (.int ca), .val (.int cb), .val (.int ma), .val (.int da), .val (.int db), .val (.int lb), .val (.int ea), .val (.int eb), .val (.int mb), .val (.int fa), .val (.int fb), .val (.ref x38), .val (.ref x41), .val (.ref x44), .val (.ref x47), .val (.ref b51), .val (.ref b57), .val (.int kd), .val (.int (1 : Int32))] [(.int r104)])) _
              refine XS.iload X104.here hx rfl (hb hby at_365) rfl ?_
              refine XS.icmpNo X104.here hx rfl (hb hby at_367) rfl (teq (own_tfeq hr104 (Or.inl ⟨rfl, own_y hr82 hq84, own_y hr93 hq95⟩))).2 ?_
              refine XS.aload X104.here hx rfl (hb hby at_370) rfl rfl ?_
              refine XS.aload X104.here hx rfl (hb hby at_372) rfl rfl ?_
              exact Steps.refl _)
            obtain ⟨cq107, kq107, q107a, q107b, q107c⟩ := isOf hZ60 eq104 Ei60
            obtain ⟨_, _, ⟨T107, L107, kk107, nn107⟩, -, X107, ⟨Lc107, hQ107, l107, y107, z107⟩, st107⟩ := X104.virtualBack hx (y := (⟨"com/example/evenkeel/evenkeel/Route", "equals", "(Ljava/lang/Object;)Z"⟩ : MethodName)) (z := (⟨"com/example/evenkeel/evenkeel/Route", "equals", "(Ljava/lang/Object;)Z"⟩ : MethodName)) hown60 (mvT hZ60 (hw _ (List.mem_of_getElem? (i := 87) rfl))) (mvT hZ60 (hw _ (List.mem_of_getElem? (i := 88) rfl))) (notFace_of_selects (args := #[]) (mvT hZ60 (hw _ (List.mem_of_getElem? (i := 90) rfl)))) (mvT hZ60 (hw _ (List.mem_of_getElem? (i := 90) rfl))) (mvT hZ60 (hw _ (List.mem_of_getElem? (i := 89) rfl))) (by decide) (backOf (W := 0) (rmEq l Z a0 hw [] b57 b51 x44 t44 x47 t47 x38 t38 x41 t41 kb44 kb47 kb38 kb41 (own_mk lb ea eb) (own_mk mb fa fb) (own_mk la ca cb) (own_mk ma da db) G1 T60.heap n0 z60 ((Ei54.ext E57).keep Kq60) Fa60 Fb60 Fh60 ((Fa54.ext E57).keep Kq60 (ninS (Nat.ne_of_lt (Nat.lt_of_lt_of_le (Nat.lt_of_lt_of_le lt_b51 Kq54.1) (Nat.le_of_eq g57.symm))) (ninS (Ne.symm (Nat.ne_of_lt (Nat.lt_of_lt_of_le (Nat.lt_of_lt_of_le lt_x44 Kq47.1) (Nat.le_of_eq g51.symm)))) (ninS (Ne.symm (Nat.ne_of_lt (Nat.lt_of_lt_of_le lt_x47 (Nat.le_of_eq g51.symm)))) nin0)))) ((Fb54.ext E57).keep Kq60 (ninS (Nat.ne_of_lt (Nat.lt_of_lt_of_le (Nat.lt_of_lt_of_le lt_b51 Kq54.1) (Nat.le_of_eq g57.symm))) (ninS (Ne.symm (Nat.ne_of_lt (Nat.lt_of_lt_of_le (Nat.lt_of_lt_of_le lt_x44 Kq47.1) (Nat.le_of_eq g51.symm)))) (ninS (Ne.symm (Nat.ne_of_lt (Nat.lt_of_lt_of_le lt_x47 (Nat.le_of_eq g51.symm)))) nin0)))) ((Fh54.ext E57).keep Kq60 (ninS (Nat.ne_of_lt (Nat.lt_of_lt_of_le (Nat.lt_of_lt_of_le lt_b51 Kq54.1) (Nat.le_of_eq g57.symm))) (ninS (Ne.symm (Nat.ne_of_lt (Nat.lt_of_lt_of_le (Nat.lt_of_lt_of_le lt_x44 Kq47.1) (Nat.le_of_eq g51.symm)))) (ninS (Ne.symm (Nat.ne_of_lt (Nat.lt_of_lt_of_le lt_x47 (Nat.le_of_eq g51.symm)))) nin0)))) ⟨Ss60.1, Ss60.2.1, Ss60.2.2.1, Ss60.2.2.2.1, Ss60.2.2.2.2.1, Ss60.2.2.2.2.2⟩ ⟨Sm60.1, Sm60.2.1, Sm60.2.2.1, Sm60.2.2.2.1, Sm60.2.2.2.2.1, Sm60.2.2.2.2.2⟩ ⟨((Ss54.1.ext E57).keep Kq60), ((Ss54.2.1.ext E57).keep Kq60 (ninS (Nat.ne_of_lt (Nat.lt_of_lt_of_le (Nat.lt_of_lt_of_le lt_x38 (Nat.le_trans (Nat.le_trans (Nat.le_trans (Nat.le_trans Kq41.1 Kq44.1) Kq47.1) E51.1) Kq54.1)) (Nat.le_of_eq g57.symm))) (ninS (Nat.ne_of_lt (Nat.lt_of_lt_of_le (Nat.lt_of_lt_of_le lt_x38 Kq41.1) gx44)) (ninS (Nat.ne_of_lt (Nat.lt_of_lt_of_le (Nat.lt_of_lt_of_le lt_x38 (Nat.le_trans Kq41.1 Kq44.1)) gx47)) nin0)))), ((Ss54.2.2.1.ext E57).keep Kq60 (ninS (Nat.ne_of_lt (Nat.lt_of_lt_of_le (Nat.lt_of_lt_of_le lt_x38 (Nat.le_trans (Nat.le_trans (Nat.le_trans (Nat.le_trans Kq41.1 Kq44.1) Kq47.1) E51.1) Kq54.1)) (Nat.le_of_eq g57.symm))) (ninS (Nat.ne_of_lt (Nat.lt_of_lt_of_le (Nat.lt_of_lt_of_le lt_x38 Kq41.1) gx44)) (ninS (Nat.ne_of_lt (Nat.lt_of_lt_of_le (Nat.lt_of_lt_of_le lt_x38 (Nat.le_trans Kq41.1 Kq44.1)) gx47)) nin0)))), ((Ss54.2.2.2.1.ext E57).keep Kq60 (ninS (Nat.ne_of_lt (Nat.lt_of_lt_of_le (Nat.lt_of_lt_of_le lt_t38 (Nat.le_trans (Nat.le_trans (Nat.le_trans (Nat.le_trans Kq41.1 Kq44.1) Kq47.1) E51.1) Kq54.1)) (Nat.le_of_eq g57.symm))) (ninS (Nat.ne_of_lt (Nat.lt_of_lt_of_le (Nat.lt_of_lt_of_le lt_t38 Kq41.1) gx44)) (ninS (Nat.ne_of_lt (Nat.lt_of_lt_of_le (Nat.lt_of_lt_of_le lt_t38 (Nat.le_trans Kq41.1 Kq44.1)) gx47)) nin0)))), Ss54.2.2.2.2.1, Ss54.2.2.2.2.2⟩ ⟨((Sm54.1.ext E57).keep Kq60), ((Sm54.2.1.ext E57).keep Kq60 (ninS (Nat.ne_of_lt (Nat.lt_of_lt_of_le (Nat.lt_of_lt_of_le lt_x41 (Nat.le_trans (Nat.le_trans (Nat.le_trans Kq44.1 Kq47.1) E51.1) Kq54.1)) (Nat.le_of_eq g57.symm))) (ninS (Nat.ne_of_lt (Nat.lt_of_lt_of_le lt_x41 gx44)) (ninS (Nat.ne_of_lt (Nat.lt_of_lt_of_le (Nat.lt_of_lt_of_le lt_x41 Kq44.1) gx47)) nin0)))), ((Sm54.2.2.1.ext E57).keep Kq60 (ninS (Nat.ne_of_lt (Nat.lt_of_lt_of_le (Nat.lt_of_lt_of_le lt_x41 (Nat.le_trans (Nat.le_trans (Nat.le_trans Kq44.1 Kq47.1) E51.1) Kq54.1)) (Nat.le_of_eq g57.symm))) (ninS (Nat.ne_of_lt (Nat.lt_of_lt_of_le lt_x41 gx44)) (ninS (Nat.ne_of_lt (Nat.lt_of_lt_of_le (Nat.lt_of_lt_of_le lt_x41 Kq44.1) gx47)) nin0)))), ((Sm54.2.2.2.1.ext E57).keep Kq60 (ninS (Nat.ne_of_lt (Nat.lt_of_lt_of_le (Nat.lt_of_lt_of_le lt_t41 (Nat.le_trans (Nat.le_trans (Nat.le_trans Kq44.1 Kq47.1) E51.1) Kq54.1)) (Nat.le_of_eq g57.symm))) (ninS (Nat.ne_of_lt (Nat.lt_of_lt_of_le lt_t41 gx44)) (ninS (Nat.ne_of_lt (Nat.lt_of_lt_of_le (Nat.lt_of_lt_of_le lt_t41 Kq44.1) gx47)) nin0)))), Sm54.2.2.2.2.1, Sm54.2.2.2.2.2⟩ O2 P5 ((((((((X00.keep Kq38 all0).keep Kq41 all0).keep Kq44 all0).keep Kq47 all0).ext E51).keep Kq54 (allS (Nat.le_trans Z0 (Nat.le_trans K47.1 (Nat.le_of_eq g51.symm))) (allS (Nat.le_trans Z0 (Nat.le_trans K0.1 gx38)) (allS (Nat.le_trans Z0 (Nat.le_trans K38.1 gx41)) all0)))).ext E57).keep Kq60 (allS (Nat.le_trans Z0 (Nat.le_trans K54.1 (Nat.le_of_eq g57.symm))) (allS (Nat.le_trans Z0 (Nat.le_trans K41.1 gx44)) (allS (Nat.le_trans Z0 (Nat.le_trans K44.1 gx47)) all0))))) hZ60 (hw _ (List.mem_of_getElem? (i := 91) rfl)) (hw _ (List.mem_of_getElem? (i := 39) rfl)) (by decide) (by decide)) q107a q107c (g := (mkF m 374 #[.val (.int p0), .val (.int p1), .val (.int p2), .val (.int p3), .val (.int p4), .val (.int la), .val (.int ca), .val (.int cb), .val (.int ma), .val (.int da), .val (.int db), .val (.int lb), .val (.int ea), .val (.int eb), .val (.int mb), .val (.int fa), .val (.int fb), .val (.ref x38), .val (.ref x41), .val (.ref x44), .val (.ref x47), .val (.ref b51), .val (.ref b57), .val (.int kd), .val (.int (1 : Int32))] [(.ref b51), (.ref b57)])) rfl (by rw [hml]; rfl) (Steps.refl _) (argsL := [(.ref b51)]) (rest := []) (lenOf pd_oLjavaslangsObjectecZ rfl) rfl (by show 2 * 0 + _ ≤ _; exact Nat.le_of_eq rfl) (hb hby at_374) (fun _ _ => ⟨rfl, eq104, (by decide : 34 + 0 ≤ _), (by decide : 174 + 0 ≤ _)⟩)
            dsimp only [Pt.U, Pt.locs, Pt.cells, Pt.slots] at X107 l107 y107 z107 st107 hQ107
            subst l107 y107 z107
            obtain ⟨r107, rfl, hr107, Nq107, eq107⟩ := hQ107
            have c108 : Steps p.tables e below S0 (T107.setTop (mkF m 377 #[.val (.int p0), .val (.int p1), .val (.int p2), .val (.int p3), .val (.int p4), .val (.int la), .val (.int ca), .val (.int cb), .val (.int ma), .val (.int da), .val (.int db), .val (.int lb), .val (.int ea), .val (.int eb), .val (.int mb), .val (.int fa), .val (.int fb), .val (.ref x38), .val (.ref x41), .val (.ref x44), .val (.ref x47), .val (.ref b51), .val (.ref b57), .val (.int kd), .val (.int (1 : Int32))] [(.int r107)])) := c106.trans (st107)
            have N107 := Fr.app N104 Nq107
            have c109 : Steps p.tables e below S0 (T107.setTop (mkF m 387 #[.val (.int p0), .val (.int p1), .val (.int p2), .val (.int p3), .val (.int p4), .val (.int la), .val (.int ca), .val (.int cb), .val (.int ma), .val (.int da), .val (.int db), .val (.int lb), .val (.int ea), .val (.int eb), .val (.int mb), .val (.int fa), .val (.int fb), .val (.ref x38), .val (.ref x41), .val (.ref x44), .val (.ref x47), .val (.ref b51), .val (.ref b57), .val (.int kd), .val (.int (1 : Int32))] [(.int (1 : Int32))])) := c108.trans (by
              show Steps p.tables e below (T107.setTop (mkF m 377 #[.val (.int p0), .val (.int p1), .val (.int p2), .val (.int p3), .val (.int p4), .val (.int la), .val (.int ca), .val (.int cb), .val (.int ma), .val (.int da), .val (.int db), .val (.int lb), .val (.int ea), .val (.int eb), .val (.int mb), .val (.int fa), .val (.int fb), .val (.ref x38), .val (.ref x41), .val (.ref x44), .val (.ref x47), .val (.ref b51), .val (.ref b57), .val (.int kd), .val (.int (1 : Int32))] [(.int r107)])) _
              refine XS.iload X107.here hx rfl (hb hby at_377) rfl ?_
              refine XS.icmpNo X107.here hx rfl (hb hby at_379) rfl (teq (own_tfeq (own_tfsw hr107) (Or.inl ⟨rfl, own_y hr82 hq84, own_y hr93 hq95⟩))).2 ?_
              refine XS.iconst X107.here hx rfl (hb hby at_382) ?_
              refine XS.goto X107.here hx rfl (pc0 := 383) (pc' := 387) rfl (hb hby at_383) (by decide) (by decide) ?_
              exact Steps.refl _)
            obtain ⟨fs, hr, hrun, hended, hW⟩ := X107.leaveW hS60 (by rw [eq107]; exact (Nat.le_refl _)) (v := some (.int (1 : Int32))) (fun h => by rw [Bd.returns] at h; cases h)
            refine ⟨_, _, c109.trans (retOut X107 hx Bd.returns rfl (Or.inl ⟨rfl, by simp, _, rfl⟩) (hb hby at_387) hr), hrun, hended, _, _, rfl, ?_, ?_, hW.1, hW.2.1, hW.2.2.1, hW.2.2.2.mono (by first | decide | exact Nat.le_of_ble_eq_true rfl) (by first | decide | exact Nat.le_of_ble_eq_true rfl)⟩
            · show Q0 Z  h0 n0 _ T107.heap _
              rw [eq107]
              exact ⟨rfl, N107⟩
            · show CHr Z EL0 s.vm s.heap T107.vm T107.heap
              rw [hh, eq107]; exact R60.trans (CHv.at X107 hZ60 hEL R60.1)

set_option maxRecDepth 65536 in
set_option maxHeartbeats 40000000 in
theorem comes_1 {Post : Tables → Env → Array Value → State → Outcome → State → Prop} (hpost : ∀ tb e args s v u, (limb_1_1.after args s (.returned v) u = true ∧ limb_1_2.after args s (.returned v) u = true ∧ True) → ReturnedEndW s (.returned v) u (Jvm.fieldLocs frame_1_writes args s ++ Jvm.arrayLocs frame_1_arrays args s ++ Jvm.staticLocs frame_1_statics s) 48 3264 → Post tb e args s (.returned v) u) :
    ArmFor flags0 classFile x code maxLocals ret World_1 tables_1 room_1 Calls_1 rest_1 Pre_1 Post := by
  intro l hfl _ _ p e ha hc hk s m args below hf hA hF happ hP
  obtain ⟨hcalls, hrest, hpre⟩ := hP
  obtain ⟨-, -, -, hnamed, -, -, -, hat⟩ := (Spec.applies_iff hf).mp happ
  obtain ⟨hg, hn⟩ := and_e (Cond.before_iff.mp (show (Jvm.Cond.and given_1 narrow_1).before args s = true from hpre))
  obtain ⟨hcnt, hr1⟩ := and_e hg
  obtain ⟨ga0, hr2⟩ := and_e hr1
  obtain ⟨ga1, hr3⟩ := and_e hr2
  obtain ⟨ga2, hr4⟩ := and_e hr3
  obtain ⟨ga3, hr5⟩ := and_e hr4
  obtain ⟨w0, w1, w2, w3, w4, rfl⟩ : ∃ w0 w1 w2 w3 w4 : Value, args = #[w0, w1, w2, w3, w4] := by
    have hs : args.size = 5 := by simpa [Cond.value, given_1] using hcnt
    obtain ⟨L⟩ := args
    match L, hs with
    | [w0, w1, w2, w3, w4], _ => exact ⟨w0, w1, w2, w3, w4, rfl⟩
  have hw := fun d (hd : d ∈ tables_1) => atoms_spec (ws := Jvm.Cond.code x code maxLocals ret :: tables_1) hat d (List.mem_cons_of_mem _ hd)
  have hfit : Fit s := fun {y c} hc i hi => by
    obtain ⟨ha, rfl⟩ := Array.getElem?_eq_some_iff.mp hc
    have q := List.all_eq_true.mp ((Array.all_eq_true_iff_forall_mem.mp hF) _ (Array.getElem_mem ha)) i (List.mem_range.mpr hi)
    simpa [Array.getElem?_eq_getElem hi] using q
  obtain ⟨hsets, hown0⟩ := atoms_of _ (rest_1_c_eq ▸ (show rest_1_c.before _ s = true from hrest))
  obtain ⟨i0, ei0⟩ := is_v ga0
  obtain rfl : w0 = (.int i0) := Option.some.inj ei0
  obtain ⟨i1, ei1⟩ := is_v ga1
  obtain rfl : w1 = (.int i1) := Option.some.inj ei1
  obtain ⟨i2, ei2⟩ := is_v ga2
  obtain rfl : w2 = (.int i2) := Option.some.inj ei2
  obtain ⟨i3, ei3⟩ := is_v ga3
  obtain rfl : w3 = (.int i3) := Option.some.inj ei3
  obtain ⟨i4, ei4⟩ := is_v hr5
  obtain rfl : w4 = (.int i4) := Option.some.inj ei4
  have n3 := not_v (Cond.before_iff.mp (hsets _ (List.mem_of_getElem? (i := 2) rfl)))
  obtain ⟨G1, eG1⟩ := is_v (Cond.before_iff.mp (hsets _ (List.mem_of_getElem? (i := 1) rfl)))
  have O2 : Sta s s.heap "java/lang/String" "COMPACT_STRINGS" "Z" (.int G1) := Sta.start eG1 (Or.inl (hsets _ (List.mem_of_getElem? (i := 0) rfl)))
  have P5 : ¬ (G1 = (0 : Int32)) := gotF (Cond.eq_ints eG1 (Term.int_eval (0))) n3
  obtain ⟨n, o, h1, h2, h3, _, L, rfl, ⟨rfl, N⟩, -, hq⟩ := rm0 l s _ hw tables_1 i0 i1 i2 i3 i4 G1 s.heap s.heap.size (Nat.le_refl _) O2 P5 (Old.start s) p e ha hc hk s m _ below hf ((Spec.applies_iff_loose hf).mp happ).1 ⟨rfl, State.Warmed39.refl s, rfl, own_CH hw hcalls.1 (hsets _ (List.mem_of_getElem? (i := 2) rfl))⟩ trivial
  refine ⟨n, _, h1, h2, h3, hpost _ _ _ _ _ _ ⟨Cond.after_iff.mpr rfl, Cond.after_iff.mpr (eq_i res_at (Term.int_eval (1)) rfl), trivial⟩ ⟨hq.1, hq.2.1, hq.2.2.1, (hq.2.2.2.sift fun y hy => Or.inr (N y hy)).mono (by decide) (by decide)⟩⟩
theorem main_1_1 : Claimed_1_1 := comes_1 fun _ _ _ _ _ _ h hF => ⟨h.1, hF⟩
theorem main_1_2 : Claimed_1_2 := comes_1 fun _ _ _ _ _ _ h hF => ⟨h.2.1, hF⟩
end Jvm.Pilot.@@N@@
namespace Jvm.Pilot.@@N@@
open Jvm Jvm.ClassFile Sem Op Lib Jvm.Free Jvm.Stand Jvm.Pilot.@@N@@.Jvm.D
/-! MADE BY PROGRAM (witnessworld.py) out of the Statement's table words and the real class files: 21 classes; the members and pool entries that the words name. The judged class is class 1, her method 3. -/
namespace start1
open Jvm.ClassFile
def u (s : String) : CpInfo := .utf8 (stringToUtf16 s)
/-- a pool by its gaps: so many unusable entries, then the entry; so many at the end -/
def gap : Nat → List CpInfo → List CpInfo
  | 0, r => r
  | n + 1, r => .unusable :: gap n r
def poolList (es : List (Nat × CpInfo)) (last : Nat) : List CpInfo := es.foldr (fun e r => gap e.1 (e.2 :: r)) (gap last [])
def pool (es : List (Nat × CpInfo)) (last : Nat) : Array CpInfo := ⟨poolList es last⟩
def fileOf (pool : Array CpInfo) (this : Nat) (attrs : Array Attribute := #[]) (ms : Array MethodInfo := #[]) (fl : Nat := 33) (sup : Nat := 0) (ifs : Array Nat := #[]) (fds : Array FieldInfo := #[]) : ClassFile where
  minorVersion := 0
  majorVersion := 65
  constantPool := pool
  accessFlags := fl
  thisClass := this
  superClass := sup
  interfaces := ifs
  fields := fds
  methods := ms
  attributes := attrs
def plain (name : String) (sup : Option ClassId) : Class where
  name := name
  kind := .ordinary
  loader := none
  accessFlags := 33
  super := sup
  interfaces := #[]
  cf := none
  fields := #[]
  methods := #[]
  instanceTypes := #[]
  staticTypes := #[]
  resolved := #[]
  callSites := []
  init := .initialized
  statics := none
  mirror := none

def pool0 : Array CpInfo := pool [(5, u "<init>"), (0, u "()V"), (1, .class_ 10), (1, u "java/lang/Object")] 113

def k0c0 : Code := { maxStack := 0, maxLocals := 1, code := object_method_1_code, exceptionTable := #[], attributes := #[] }
def k0m0 : Method := { name := "<init>", desc := "()V", sig := { parameters := [], returnType := none }, accessFlags := 1, code := some k0c0 }
/-- java/lang/Object -/
def k0 : Class := { plain "java/lang/Object" none with
  accessFlags := 33
  interfaces := #[]
  cf := some (fileOf pool0 8 #[] #[{ accessFlags := 1, nameIndex := 5, descriptorIndex := 6, attributes := #[] }] 33 0 #[] #[])
  fields := #[]
  methods := #[k0m0]
  instanceTypes := #[]
  staticTypes := #[]
  resolved := Array.replicate 124 none
  statics := none }

def pool1 : Array CpInfo := pool [(2, .class_ 4), (1, u "java/lang/Object"), (0, u "<init>"), (0, u "()V"), (0, .class_ 8), (0, u "java/lang/String"), (0, .methodref 7 10), (0, .nameAndType 5 11), (0, u "([C)V"), (0, .methodref 13 14), (0, .class_ 15), (0, .nameAndType 16 17), (0, u "com/example/evenkeel/evenkeel/RouteEqualsPinLaw"), (0, u "mk"), (0, u "(III)Ljava/lang/String;"), (0, .class_ 19), (0, u "com/example/evenkeel/evenkeel/Route"), (0, .methodref 18 21), (0, .nameAndType 5 22), (0, u "(Ljava/lang/String;Ljava/lang/String;)V"), (0, .methodref 18 24), (0, .nameAndType 25 26), (0, u "equals"), (0, u "(Ljava/lang/Object;)Z"), (0, .methodref 13 28), (0, .nameAndType 29 30), (0, u "same"), (0, u "(IIIIII)Z"), (3, u "law"), (0, u "(IIIII)Z")] 2

def k1m0 : Method := { name := "<init>", desc := "()V", sig := { parameters := [], returnType := none }, accessFlags := 1, code := none }
def k1c1 : Code := { maxStack := 6, maxLocals := 3, code := method_2_code, exceptionTable := #[], attributes := #[] }
def k1m1 : Method := { name := "mk", desc := "(III)Ljava/lang/String;", sig := { parameters := [.int, .int, .int], returnType := some (.object "java/lang/String") }, accessFlags := 10, code := some k1c1 }
def k1c2 : Code := { maxStack := 2, maxLocals := 6, code := method_3_code, exceptionTable := #[], attributes := #[] }
def k1m2 : Method := { name := "same", desc := "(IIIIII)Z", sig := { parameters := [.int, .int, .int, .int, .int, .int], returnType := some .boolean }, accessFlags := 10, code := some k1c2 }
def k1c3 : Code := { maxStack := 6, maxLocals := 25, code := code, exceptionTable := #[], attributes := #[] }
def k1m3 : Method := { name := "law", desc := "(IIIII)Z", sig := { parameters := [.int, .int, .int, .int, .int], returnType := some .boolean }, accessFlags := 9, code := some k1c3 }
/-- com/example/evenkeel/evenkeel/RouteEqualsPinLaw -/
def k1 : Class := { plain "com/example/evenkeel/evenkeel/RouteEqualsPinLaw" (some 0) with
  accessFlags := 49
  interfaces := #[]
  cf := some (fileOf pool1 13 #[] #[{ accessFlags := 1, nameIndex := 5, descriptorIndex := 6, attributes := #[] }, { accessFlags := 10, nameIndex := 16, descriptorIndex := 17, attributes := #[] }, { accessFlags := 10, nameIndex := 29, descriptorIndex := 30, attributes := #[] }, { accessFlags := 9, nameIndex := 34, descriptorIndex := 35, attributes := #[] }] 49 2 #[] #[])
  fields := #[]
  methods := #[k1m0, k1m1, k1m2, k1m3]
  instanceTypes := #[]
  staticTypes := #[]
  resolved := Array.replicate 38 none
  statics := none }

def pool2 : Array CpInfo := pool [(1, .class_ 2), (0, u "java/io/Serializable"), (0, .class_ 4), (0, u "java/lang/Object")] 2

/-- java/io/Serializable -/
def k2 : Class := { plain "java/io/Serializable" (some 0) with
  accessFlags := 1537
  interfaces := #[]
  cf := some (fileOf pool2 1 #[] #[] 1537 3 #[] #[])
  fields := #[]
  methods := #[]
  instanceTypes := #[]
  staticTypes := #[]
  resolved := Array.replicate 7 none
  statics := none }

def pool3 : Array CpInfo := pool [(1, .class_ 2), (0, u "java/lang/Comparable"), (0, .class_ 4), (0, u "java/lang/Object")] 7

/-- java/lang/Comparable -/
def k3 : Class := { plain "java/lang/Comparable" (some 0) with
  accessFlags := 1537
  interfaces := #[]
  cf := some (fileOf pool3 1 #[] #[] 1537 3 #[] #[])
  fields := #[]
  methods := #[]
  instanceTypes := #[]
  staticTypes := #[]
  resolved := Array.replicate 12 none
  statics := none }

def pool4 : Array CpInfo := pool [(2, .class_ 4), (1, u "java/lang/CharSequence"), (42, .class_ 48), (0, u "java/lang/CharSequence$1CodePointIterator"), (10, .class_ 60), (0, u "java/lang/CharSequence$1CharIterator"), (5, .class_ 67), (0, u "java/lang/Object")] 63

/-- java/lang/CharSequence -/
def k4 : Class := { plain "java/lang/CharSequence" (some 0) with
  accessFlags := 1537
  interfaces := #[]
  cf := some (fileOf pool4 2 #[.nestMembers #[47, 59]] #[] 1537 66 #[] #[])
  fields := #[]
  methods := #[]
  instanceTypes := #[]
  staticTypes := #[]
  resolved := Array.replicate 131 none
  statics := none }

def pool5 : Array CpInfo := pool [(1, .class_ 2), (0, u "java/lang/constant/Constable"), (0, .class_ 4), (0, u "java/lang/Object")] 6

/-- java/lang/constant/Constable -/
def k5 : Class := { plain "java/lang/constant/Constable" (some 0) with
  accessFlags := 1537
  interfaces := #[]
  cf := some (fileOf pool5 1 #[] #[] 1537 3 #[] #[])
  fields := #[]
  methods := #[]
  instanceTypes := #[]
  staticTypes := #[]
  resolved := Array.replicate 11 none
  statics := none }

def pool6 : Array CpInfo := pool [(1, .class_ 2), (0, u "java/lang/constant/ConstantDesc"), (0, .class_ 4), (0, u "java/lang/Object")] 32

/-- java/lang/constant/ConstantDesc -/
def k6 : Class := { plain "java/lang/constant/ConstantDesc" (some 0) with
  accessFlags := 1537
  interfaces := #[]
  cf := some (fileOf pool6 1 #[] #[] 1537 3 #[] #[])
  fields := #[]
  methods := #[]
  instanceTypes := #[]
  staticTypes := #[]
  resolved := Array.replicate 37 none
  statics := none }

def pool7 : Array CpInfo := pool [(1, .methodref 2 3), (0, .class_ 4), (0, .nameAndType 5 6), (0, u "java/lang/Object"), (0, u "<init>"), (0, u "()V"), (0, .string 8), (0, u ""), (0, .fieldref 10 11), (0, .class_ 12), (0, .nameAndType 13 14), (0, u "java/lang/String"), (0, u "value"), (0, u "[B"), (0, .fieldref 10 16), (0, .nameAndType 17 18), (0, u "coder"), (0, u "B"), (0, .fieldref 10 20), (0, .nameAndType 21 22), (0, u "hash"), (0, u "I"), (0, .fieldref 10 24), (0, .nameAndType 25 26), (0, u "hashIsZero"), (0, u "Z"), (0, .methodref 10 28), (0, .nameAndType 5 29), (0, u "([CIILjava/lang/Void;)V"), (8, .fieldref 10 39), (0, .nameAndType 40 26), (0, u "COMPACT_STRINGS"), (1, .class_ 44), (1, u "java/lang/StringUTF16"), (0, u "compress"), (1, .methodref 42 48), (0, .nameAndType 49 50), (0, u "coderFromArrayLen"), (0, u "([BI)B"), (56, .class_ 109), (1, u "java/lang/StringLatin1"), (32, u "()Z"), (34, .methodref 42 178), (0, .nameAndType 45 179), (0, u "([CII)[B"), (154, u "()I"), (157, .methodref 10 493), (0, .nameAndType 494 142), (0, u "isLatin1"), (46, .methodref 107 542), (0, .nameAndType 543 544), (0, u "equals"), (0, u "([B[B)Z"), (28, u "(Ljava/lang/Object;)Z"), (1, .class_ 576), (0, u "java/lang/CharSequence"), (22, u "CASE_INSENSITIVE_ORDER"), (0, u "Ljava/util/Comparator;"), (27, .methodref 107 629), (0, .nameAndType 630 631), (0, u "hashCode"), (0, u "([B)I"), (378, u "([C)V"), (90, u "serialPersistentFields"), (0, u "[Ljava/io/ObjectStreamField;"), (0, .class_ 1104), (0, u "java/lang/String$CaseInsensitiveComparator"), (1, .class_ 1107), (0, u "java/io/Serializable"), (0, .class_ 1109), (0, u "java/lang/Comparable"), (0, .class_ 1111), (0, u "java/lang/constant/Constable"), (0, .class_ 1113), (0, u "java/lang/constant/ConstantDesc"), (2, u "serialVersionUID"), (0, u "J"), (3, u "REPL"), (0, u "C"), (2, u "LATIN1"), (1, u "UTF16")] 323

def k7m0 : Method := { name := "<init>", desc := "()V", sig := { parameters := [], returnType := none }, accessFlags := 1, code := none }
def k7c1 : Code := { maxStack := 5, maxLocals := 2, code := jdk_42_method_3_code, exceptionTable := #[], attributes := #[] }
def k7m1 : Method := { name := "<init>", desc := "([C)V", sig := { parameters := [(.array .char)], returnType := none }, accessFlags := 1, code := some k7c1 }
def k7c2 : Code := { maxStack := 2, maxLocals := 3, code := jdk_42_method_66_code, exceptionTable := #[], attributes := #[] }
def k7m2 : Method := { name := "equals", desc := "(Ljava/lang/Object;)Z", sig := { parameters := [(.object "java/lang/Object")], returnType := some .boolean }, accessFlags := 1, code := some k7c2 }
def k7c3 : Code := { maxStack := 2, maxLocals := 2, code := jdk_42_method_78_code, exceptionTable := #[], attributes := #[] }
def k7m3 : Method := { name := "hashCode", desc := "()I", sig := { parameters := [], returnType := some .int }, accessFlags := 1, code := some k7c3 }
def k7c4 : Code := { maxStack := 4, maxLocals := 6, code := jdk_42_method_149_code, exceptionTable := #[], attributes := #[] }
def k7m4 : Method := { name := "<init>", desc := "([CIILjava/lang/Void;)V", sig := { parameters := [(.array .char), .int, .int, (.object "java/lang/Void")], returnType := none }, accessFlags := 2, code := some k7c4 }
def k7c5 : Code := { maxStack := 1, maxLocals := 1, code := jdk_42_method_154_code, exceptionTable := #[], attributes := #[] }
def k7m5 : Method := { name := "isLatin1", desc := "()Z", sig := { parameters := [], returnType := some .boolean }, accessFlags := 0, code := some k7c5 }
/-- java/lang/String -/
def k7 : Class := { plain "java/lang/String" (some 0) with
  accessFlags := 49
  interfaces := #[2, 3, 4, 5, 6]
  cf := some (fileOf pool7 10 #[.nestMembers #[1103]] #[{ accessFlags := 1, nameIndex := 5, descriptorIndex := 6, attributes := #[] }, { accessFlags := 1, nameIndex := 5, descriptorIndex := 1010, attributes := #[] }, { accessFlags := 1, nameIndex := 543, descriptorIndex := 573, attributes := #[] }, { accessFlags := 1, nameIndex := 630, descriptorIndex := 334, attributes := #[] }, { accessFlags := 2, nameIndex := 5, descriptorIndex := 29, attributes := #[] }, { accessFlags := 0, nameIndex := 494, descriptorIndex := 142, attributes := #[] }] 49 2 #[1106, 1108, 575, 1110, 1112] #[{ accessFlags := 18, nameIndex := 13, descriptorIndex := 14, attributes := #[] }, { accessFlags := 18, nameIndex := 17, descriptorIndex := 18, attributes := #[] }, { accessFlags := 2, nameIndex := 21, descriptorIndex := 22, attributes := #[] }, { accessFlags := 2, nameIndex := 25, descriptorIndex := 26, attributes := #[] }, { accessFlags := 26, nameIndex := 1116, descriptorIndex := 1117, attributes := #[] }, { accessFlags := 24, nameIndex := 40, descriptorIndex := 26, attributes := #[] }, { accessFlags := 26, nameIndex := 1101, descriptorIndex := 1102, attributes := #[] }, { accessFlags := 26, nameIndex := 1121, descriptorIndex := 1122, attributes := #[] }, { accessFlags := 25, nameIndex := 599, descriptorIndex := 600, attributes := #[] }, { accessFlags := 24, nameIndex := 1125, descriptorIndex := 18, attributes := #[] }, { accessFlags := 24, nameIndex := 1127, descriptorIndex := 18, attributes := #[] }])
  fields := #[{ name := "value", type := (.array .byte), accessFlags := 18, slot := 0, constantValue := 0 }, { name := "coder", type := .byte, accessFlags := 18, slot := 1, constantValue := 0 }, { name := "hash", type := .int, accessFlags := 2, slot := 2, constantValue := 0 }, { name := "hashIsZero", type := .boolean, accessFlags := 2, slot := 3, constantValue := 0 }, { name := "serialVersionUID", type := .long, accessFlags := 26, slot := 0, constantValue := 0 }, { name := "COMPACT_STRINGS", type := .boolean, accessFlags := 24, slot := 1, constantValue := 0 }, { name := "serialPersistentFields", type := (.array (.object "java/io/ObjectStreamField")), accessFlags := 26, slot := 2, constantValue := 0 }, { name := "REPL", type := .char, accessFlags := 26, slot := 3, constantValue := 0 }, { name := "CASE_INSENSITIVE_ORDER", type := (.object "java/util/Comparator"), accessFlags := 25, slot := 4, constantValue := 0 }, { name := "LATIN1", type := .byte, accessFlags := 24, slot := 5, constantValue := 0 }, { name := "UTF16", type := .byte, accessFlags := 24, slot := 6, constantValue := 0 }]
  methods := #[k7m0, k7m1, k7m2, k7m3, k7m4, k7m5]
  instanceTypes := #[(.array .byte), .byte, .int, .boolean]
  staticTypes := #[.long, .boolean, (.array (.object "java/io/ObjectStreamField")), .char, (.object "java/util/Comparator"), .byte, .byte]
  resolved := Array.replicate 1451 none
  statics := some 0 }

def pool8 : Array CpInfo := pool [(6, .class_ 8), (1, u "java/lang/Object"), (0, u "<init>"), (0, u "()V"), (1, .class_ 14), (1, u "java/lang/StringUTF16"), (31, u "$assertionsDisabled"), (0, u "Z"), (13, u "HI_BYTE_SHIFT"), (0, u "I"), (2, u "LO_BYTE_SHIFT"), (49, .methodref 12 116), (0, .nameAndType 117 118), (0, u "compress"), (0, u "([CI[BII)I"), (3, u "([CII)[B"), (138, u "coderFromArrayLen"), (0, u "([BI)B"), (106, .class_ 371), (1, u "java/lang/StringUTF16$LinesSpliterator"), (58, u "MAX_LENGTH"), (196, .class_ 628), (0, u "java/lang/StringUTF16$CodePointsSpliterator"), (0, .class_ 630), (0, u "java/lang/StringUTF16$CharsSpliterator")] 4

def k8m0 : Method := { name := "<init>", desc := "()V", sig := { parameters := [], returnType := none }, accessFlags := 0, code := none }
def k8c1 : Code := { maxStack := 2, maxLocals := 2, code := jdk_52_method_15_code, exceptionTable := #[], attributes := #[] }
def k8m1 : Method := { name := "coderFromArrayLen", desc := "([BI)B", sig := { parameters := [(.array .byte), .int], returnType := some .byte }, accessFlags := 8, code := some k8c1 }
def k8c2 : Code := { maxStack := 5, maxLocals := 6, code := jdk_52_method_16_code, exceptionTable := #[], attributes := #[] }
def k8m2 : Method := { name := "compress", desc := "([CII)[B", sig := { parameters := [(.array .char), .int, .int], returnType := some (.array .byte) }, accessFlags := 9, code := some k8c2 }
def k8c3 : Code := { maxStack := 3, maxLocals := 7, code := jdk_52_method_21_code, exceptionTable := #[], attributes := #[] }
def k8m3 : Method := { name := "compress", desc := "([CI[BII)I", sig := { parameters := [(.array .char), .int, (.array .byte), .int, .int], returnType := some .int }, accessFlags := 9, code := some k8c3 }
/-- java/lang/StringUTF16 -/
def k8 : Class := { plain "java/lang/StringUTF16" (some 0) with
  accessFlags := 48
  interfaces := #[]
  cf := some (fileOf pool8 12 #[.nestMembers #[627, 629, 369]] #[{ accessFlags := 0, nameIndex := 9, descriptorIndex := 10, attributes := #[] }, { accessFlags := 8, nameIndex := 261, descriptorIndex := 262, attributes := #[] }, { accessFlags := 9, nameIndex := 117, descriptorIndex := 122, attributes := #[] }, { accessFlags := 9, nameIndex := 117, descriptorIndex := 118, attributes := #[] }] 48 6 #[] #[{ accessFlags := 26, nameIndex := 61, descriptorIndex := 62, attributes := #[] }, { accessFlags := 26, nameIndex := 65, descriptorIndex := 62, attributes := #[] }, { accessFlags := 24, nameIndex := 430, descriptorIndex := 62, attributes := #[] }, { accessFlags := 4120, nameIndex := 46, descriptorIndex := 47, attributes := #[] }])
  fields := #[{ name := "HI_BYTE_SHIFT", type := .int, accessFlags := 26, slot := 0, constantValue := 0 }, { name := "LO_BYTE_SHIFT", type := .int, accessFlags := 26, slot := 1, constantValue := 0 }, { name := "MAX_LENGTH", type := .int, accessFlags := 24, slot := 2, constantValue := 0 }, { name := "$assertionsDisabled", type := .boolean, accessFlags := 4120, slot := 3, constantValue := 0 }]
  methods := #[k8m0, k8m1, k8m2, k8m3]
  instanceTypes := #[]
  staticTypes := #[.int, .int, .int, .boolean]
  resolved := Array.replicate 635 none
  statics := none }

def pool9 : Array CpInfo := pool [(1, .methodref 2 3), (0, .class_ 4), (0, .nameAndType 5 6), (0, u "java/lang/Object"), (0, u "<init>"), (0, u "()V"), (0, .string 8), (0, u "service"), (0, .methodref 10 11), (0, .class_ 12), (0, .nameAndType 13 14), (0, u "java/util/Objects"), (0, u "requireNonNull"), (0, u "(Ljava/lang/Object;Ljava/lang/String;)Ljava/lang/Object;"), (0, .class_ 16), (0, u "java/lang/String"), (0, .fieldref 18 19), (0, .class_ 20), (0, .nameAndType 8 21), (0, u "com/example/evenkeel/evenkeel/Route"), (0, u "Ljava/lang/String;"), (0, .string 23), (0, u "method"), (0, .fieldref 18 25), (0, .nameAndType 23 21), (0, .methodref 15 27), (0, .nameAndType 28 29), (0, u "hashCode"), (0, u "()I"), (0, .fieldref 18 31), (0, .nameAndType 32 33), (0, u "hash"), (0, u "I"), (0, .methodref 15 35), (0, .nameAndType 36 37), (0, u "equals"), (0, u "(Ljava/lang/Object;)Z"), (4, u "(Ljava/lang/String;Ljava/lang/String;)V")] 22

def k9c0 : Code := { maxStack := 3, maxLocals := 3, code := prog_27_method_1_code, exceptionTable := #[], attributes := #[] }
def k9m0 : Method := { name := "<init>", desc := "(Ljava/lang/String;Ljava/lang/String;)V", sig := { parameters := [(.object "java/lang/String"), (.object "java/lang/String")], returnType := none }, accessFlags := 0, code := some k9c0 }
def k9c1 : Code := { maxStack := 2, maxLocals := 3, code := prog_27_method_4_code, exceptionTable := #[], attributes := #[] }
def k9m1 : Method := { name := "equals", desc := "(Ljava/lang/Object;)Z", sig := { parameters := [(.object "java/lang/Object")], returnType := some .boolean }, accessFlags := 1, code := some k9c1 }
/-- com/example/evenkeel/evenkeel/Route -/
def k9 : Class := { plain "com/example/evenkeel/evenkeel/Route" (some 0) with
  accessFlags := 48
  interfaces := #[]
  cf := some (fileOf pool9 18 #[] #[{ accessFlags := 0, nameIndex := 5, descriptorIndex := 42, attributes := #[] }, { accessFlags := 1, nameIndex := 36, descriptorIndex := 37, attributes := #[] }] 48 2 #[] #[{ accessFlags := 18, nameIndex := 8, descriptorIndex := 21, attributes := #[] }, { accessFlags := 18, nameIndex := 23, descriptorIndex := 21, attributes := #[] }, { accessFlags := 18, nameIndex := 32, descriptorIndex := 33, attributes := #[] }])
  fields := #[{ name := "service", type := (.object "java/lang/String"), accessFlags := 18, slot := 0, constantValue := 0 }, { name := "method", type := (.object "java/lang/String"), accessFlags := 18, slot := 1, constantValue := 0 }, { name := "hash", type := .int, accessFlags := 18, slot := 2, constantValue := 0 }]
  methods := #[k9m0, k9m1]
  instanceTypes := #[(.object "java/lang/String"), (.object "java/lang/String"), .int]
  staticTypes := #[]
  resolved := Array.replicate 65 none
  statics := none }

def pool10 : Array CpInfo := pool [(2, .class_ 4), (1, u "java/lang/Object"), (0, u "<init>"), (0, u "()V"), (35, .class_ 44), (1, u "java/util/Objects"), (0, u "requireNonNull"), (48, u "(Ljava/lang/Object;Ljava/lang/String;)Ljava/lang/Object;")] 89

def k10m0 : Method := { name := "<init>", desc := "()V", sig := { parameters := [], returnType := none }, accessFlags := 2, code := none }
def k10c1 : Code := { maxStack := 3, maxLocals := 2, code := jdk_31_method_11_code, exceptionTable := #[], attributes := #[] }
def k10m1 : Method := { name := "requireNonNull", desc := "(Ljava/lang/Object;Ljava/lang/String;)Ljava/lang/Object;", sig := { parameters := [(.object "java/lang/Object"), (.object "java/lang/String")], returnType := some (.object "java/lang/Object") }, accessFlags := 9, code := some k10c1 }
/-- java/util/Objects -/
def k10 : Class := { plain "java/util/Objects" (some 0) with
  accessFlags := 49
  interfaces := #[]
  cf := some (fileOf pool10 42 #[] #[{ accessFlags := 2, nameIndex := 5, descriptorIndex := 6, attributes := #[] }, { accessFlags := 9, nameIndex := 45, descriptorIndex := 94, attributes := #[] }] 49 2 #[] #[])
  fields := #[]
  methods := #[k10m0, k10m1]
  instanceTypes := #[]
  staticTypes := #[]
  resolved := Array.replicate 184 none
  statics := none }

def pool11 : Array CpInfo := pool [(4, .class_ 6), (1, u "java/lang/Object"), (0, u "<init>"), (0, u "()V"), (5, .class_ 16), (1, u "java/lang/StringLatin1"), (28, .class_ 47), (1, u "jdk/internal/util/ArraysSupport"), (9, u "([B)I"), (26, .methodref 45 85), (0, .nameAndType 86 87), (0, u "vectorizedHashCode"), (0, u "(Ljava/lang/Object;IIII)I"), (33, u "$assertionsDisabled"), (0, u "Z"), (98, .class_ 223), (1, u "java/lang/StringLatin1$LinesSpliterator"), (57, u "equals"), (0, u "([B[B)Z"), (15, u "hashCode"), (91, .class_ 391), (0, u "java/lang/StringLatin1$CharsSpliterator")] 3

def k11m0 : Method := { name := "<init>", desc := "()V", sig := { parameters := [], returnType := none }, accessFlags := 0, code := none }
def k11c1 : Code := { maxStack := 3, maxLocals := 3, code := jdk_43_method_13_code, exceptionTable := #[], attributes := #[] }
def k11m1 : Method := { name := "equals", desc := "([B[B)Z", sig := { parameters := [(.array .byte), (.array .byte)], returnType := some .boolean }, accessFlags := 9, code := some k11c1 }
def k11c2 : Code := { maxStack := 5, maxLocals := 1, code := jdk_43_method_21_code, exceptionTable := #[], attributes := #[] }
def k11m2 : Method := { name := "hashCode", desc := "([B)I", sig := { parameters := [(.array .byte)], returnType := some .int }, accessFlags := 9, code := some k11c2 }
/-- java/lang/StringLatin1 -/
def k11 : Class := { plain "java/lang/StringLatin1" (some 0) with
  accessFlags := 48
  interfaces := #[]
  cf := some (fileOf pool11 14 #[.nestMembers #[390, 221]] #[{ accessFlags := 0, nameIndex := 7, descriptorIndex := 8, attributes := #[] }, { accessFlags := 9, nameIndex := 281, descriptorIndex := 282, attributes := #[] }, { accessFlags := 9, nameIndex := 298, descriptorIndex := 57, attributes := #[] }] 48 4 #[] #[{ accessFlags := 4120, nameIndex := 121, descriptorIndex := 122, attributes := #[] }])
  fields := #[{ name := "$assertionsDisabled", type := .boolean, accessFlags := 4120, slot := 0, constantValue := 0 }]
  methods := #[k11m0, k11m1, k11m2]
  instanceTypes := #[]
  staticTypes := #[.boolean]
  resolved := Array.replicate 395 none
  statics := none }

def pool12 : Array CpInfo := pool [(9, u "<init>"), (6, .class_ 18), (1, u "java/lang/Object"), (0, u "()V"), (1, .class_ 23), (1, u "jdk/internal/util/ArraysSupport"), (0, u "LOG2_ARRAY_LONG_INDEX_SCALE"), (0, u "I"), (2, u "U"), (0, u "Ljdk/internal/misc/Unsafe;"), (8, u "BIG_ENDIAN"), (0, u "Z"), (8, u "LOG2_BYTE_BIT_SIZE"), (4, u "LOG2_ARRAY_INT_INDEX_SCALE"), (6, .class_ 61), (0, u "[B"), (0, .methodref 21 63), (0, .nameAndType 64 65), (0, u "signedHashCode"), (0, u "(I[BII)I"), (42, u "JLA"), (0, u "Ljdk/internal/access/JavaLangAccess;"), (11, u "LOG2_ARRAY_BOOLEAN_INDEX_SCALE"), (9, u "LOG2_ARRAY_BYTE_INDEX_SCALE"), (5, u "LOG2_ARRAY_CHAR_INDEX_SCALE"), (5, u "LOG2_ARRAY_SHORT_INDEX_SCALE"), (18, u "LOG2_ARRAY_FLOAT_INDEX_SCALE"), (24, u "LOG2_ARRAY_DOUBLE_INDEX_SCALE"), (89, u "T_BOOLEAN"), (2, u "T_CHAR"), (1, u "T_FLOAT"), (1, u "T_DOUBLE"), (1, u "T_BYTE"), (1, u "T_SHORT"), (1, u "T_INT"), (1, u "T_LONG"), (1, u "SOFT_MAX_ARRAY_LENGTH"), (26, u "vectorizedHashCode"), (0, u "(Ljava/lang/Object;IIII)I")] 55

def k12m0 : Method := { name := "<init>", desc := "()V", sig := { parameters := [], returnType := none }, accessFlags := 2, code := none }
def k12c1 : Code := { maxStack := 4, maxLocals := 5, code := jdk_48_method_4_code, exceptionTable := #[], attributes := #[] }
def k12m1 : Method := { name := "vectorizedHashCode", desc := "(Ljava/lang/Object;IIII)I", sig := { parameters := [(.object "java/lang/Object"), .int, .int, .int, .int], returnType := some .int }, accessFlags := 9, code := some k12c1 }
def k12c2 : Code := { maxStack := 3, maxLocals := 6, code := jdk_48_method_5_code, exceptionTable := #[], attributes := #[] }
def k12m2 : Method := { name := "signedHashCode", desc := "(I[BII)I", sig := { parameters := [.int, (.array .byte), .int, .int], returnType := some .int }, accessFlags := 10, code := some k12c2 }
/-- jdk/internal/util/ArraysSupport -/
def k12 : Class := { plain "jdk/internal/util/ArraysSupport" (some 0) with
  accessFlags := 33
  interfaces := #[]
  cf := some (fileOf pool12 21 #[] #[{ accessFlags := 2, nameIndex := 9, descriptorIndex := 19, attributes := #[] }, { accessFlags := 9, nameIndex := 321, descriptorIndex := 322, attributes := #[] }, { accessFlags := 10, nameIndex := 64, descriptorIndex := 65, attributes := #[] }] 33 16 #[] #[{ accessFlags := 24, nameIndex := 28, descriptorIndex := 29, attributes := #[] }, { accessFlags := 26, nameIndex := 38, descriptorIndex := 39, attributes := #[] }, { accessFlags := 25, nameIndex := 121, descriptorIndex := 25, attributes := #[] }, { accessFlags := 25, nameIndex := 131, descriptorIndex := 25, attributes := #[] }, { accessFlags := 25, nameIndex := 137, descriptorIndex := 25, attributes := #[] }, { accessFlags := 25, nameIndex := 143, descriptorIndex := 25, attributes := #[] }, { accessFlags := 25, nameIndex := 53, descriptorIndex := 25, attributes := #[] }, { accessFlags := 25, nameIndex := 24, descriptorIndex := 25, attributes := #[] }, { accessFlags := 25, nameIndex := 162, descriptorIndex := 25, attributes := #[] }, { accessFlags := 25, nameIndex := 187, descriptorIndex := 25, attributes := #[] }, { accessFlags := 26, nameIndex := 48, descriptorIndex := 25, attributes := #[] }, { accessFlags := 25, nameIndex := 277, descriptorIndex := 25, attributes := #[] }, { accessFlags := 25, nameIndex := 280, descriptorIndex := 25, attributes := #[] }, { accessFlags := 25, nameIndex := 282, descriptorIndex := 25, attributes := #[] }, { accessFlags := 25, nameIndex := 284, descriptorIndex := 25, attributes := #[] }, { accessFlags := 25, nameIndex := 286, descriptorIndex := 25, attributes := #[] }, { accessFlags := 25, nameIndex := 288, descriptorIndex := 25, attributes := #[] }, { accessFlags := 25, nameIndex := 290, descriptorIndex := 25, attributes := #[] }, { accessFlags := 25, nameIndex := 292, descriptorIndex := 25, attributes := #[] }, { accessFlags := 26, nameIndex := 108, descriptorIndex := 109, attributes := #[] }, { accessFlags := 25, nameIndex := 294, descriptorIndex := 25, attributes := #[] }])
  fields := #[{ name := "U", type := (.object "jdk/internal/misc/Unsafe"), accessFlags := 24, slot := 0, constantValue := 0 }, { name := "BIG_ENDIAN", type := .boolean, accessFlags := 26, slot := 1, constantValue := 0 }, { name := "LOG2_ARRAY_BOOLEAN_INDEX_SCALE", type := .int, accessFlags := 25, slot := 2, constantValue := 0 }, { name := "LOG2_ARRAY_BYTE_INDEX_SCALE", type := .int, accessFlags := 25, slot := 3, constantValue := 0 }, { name := "LOG2_ARRAY_CHAR_INDEX_SCALE", type := .int, accessFlags := 25, slot := 4, constantValue := 0 }, { name := "LOG2_ARRAY_SHORT_INDEX_SCALE", type := .int, accessFlags := 25, slot := 5, constantValue := 0 }, { name := "LOG2_ARRAY_INT_INDEX_SCALE", type := .int, accessFlags := 25, slot := 6, constantValue := 0 }, { name := "LOG2_ARRAY_LONG_INDEX_SCALE", type := .int, accessFlags := 25, slot := 7, constantValue := 0 }, { name := "LOG2_ARRAY_FLOAT_INDEX_SCALE", type := .int, accessFlags := 25, slot := 8, constantValue := 0 }, { name := "LOG2_ARRAY_DOUBLE_INDEX_SCALE", type := .int, accessFlags := 25, slot := 9, constantValue := 0 }, { name := "LOG2_BYTE_BIT_SIZE", type := .int, accessFlags := 26, slot := 10, constantValue := 0 }, { name := "T_BOOLEAN", type := .int, accessFlags := 25, slot := 11, constantValue := 0 }, { name := "T_CHAR", type := .int, accessFlags := 25, slot := 12, constantValue := 0 }, { name := "T_FLOAT", type := .int, accessFlags := 25, slot := 13, constantValue := 0 }, { name := "T_DOUBLE", type := .int, accessFlags := 25, slot := 14, constantValue := 0 }, { name := "T_BYTE", type := .int, accessFlags := 25, slot := 15, constantValue := 0 }, { name := "T_SHORT", type := .int, accessFlags := 25, slot := 16, constantValue := 0 }, { name := "T_INT", type := .int, accessFlags := 25, slot := 17, constantValue := 0 }, { name := "T_LONG", type := .int, accessFlags := 25, slot := 18, constantValue := 0 }, { name := "JLA", type := (.object "jdk/internal/access/JavaLangAccess"), accessFlags := 26, slot := 19, constantValue := 0 }, { name := "SOFT_MAX_ARRAY_LENGTH", type := .int, accessFlags := 25, slot := 20, constantValue := 0 }]
  methods := #[k12m0, k12m1, k12m2]
  instanceTypes := #[]
  staticTypes := #[(.object "jdk/internal/misc/Unsafe"), .boolean, .int, .int, .int, .int, .int, .int, .int, .int, .int, .int, .int, .int, .int, .int, .int, .int, .int, (.object "jdk/internal/access/JavaLangAccess"), .int]
  resolved := Array.replicate 378 none
  statics := none }

def pool13 : Array CpInfo := pool [(2, .class_ 4), (1, u "java/lang/Object"), (0, u "<init>"), (0, u "()V"), (17, .class_ 26), (1, u "jdk/internal/util/Preconditions"), (28, .class_ 56), (0, u "jdk/internal/util/Preconditions$4"), (57, .class_ 115), (0, u "jdk/internal/util/Preconditions$1"), (7, u "SIOOBE_FORMATTER"), (0, u "Ljava/util/function/BiFunction;"), (0, .class_ 126), (0, u "jdk/internal/util/Preconditions$2"), (3, u "AIOOBE_FORMATTER"), (0, .class_ 132), (0, u "jdk/internal/util/Preconditions$3"), (3, u "IOOBE_FORMATTER")] 57

def k13m0 : Method := { name := "<init>", desc := "()V", sig := { parameters := [], returnType := none }, accessFlags := 1, code := none }
/-- jdk/internal/util/Preconditions -/
def k13 : Class := { plain "jdk/internal/util/Preconditions" (some 0) with
  accessFlags := 33
  interfaces := #[]
  cf := some (fileOf pool13 24 #[.nestMembers #[55, 131, 125, 114]] #[{ accessFlags := 1, nameIndex := 5, descriptorIndex := 6, attributes := #[] }] 33 2 #[] #[{ accessFlags := 25, nameIndex := 123, descriptorIndex := 124, attributes := #[] }, { accessFlags := 25, nameIndex := 130, descriptorIndex := 124, attributes := #[] }, { accessFlags := 25, nameIndex := 136, descriptorIndex := 124, attributes := #[] }])
  fields := #[{ name := "SIOOBE_FORMATTER", type := (.object "java/util/function/BiFunction"), accessFlags := 25, slot := 0, constantValue := 0 }, { name := "AIOOBE_FORMATTER", type := (.object "java/util/function/BiFunction"), accessFlags := 25, slot := 1, constantValue := 0 }, { name := "IOOBE_FORMATTER", type := (.object "java/util/function/BiFunction"), accessFlags := 25, slot := 2, constantValue := 0 }]
  methods := #[k13m0]
  instanceTypes := #[]
  staticTypes := #[(.object "java/util/function/BiFunction"), (.object "java/util/function/BiFunction"), (.object "java/util/function/BiFunction")]
  resolved := Array.replicate 194 none
  statics := some 1 }

def pool14 : Array CpInfo := pool [(1, u "java/lang/Cloneable"), (0, .class_ 1), (0, u "java/lang/Object"), (0, .class_ 3)] 3

/-- java/lang/Cloneable -/
def k14 : Class := { plain "java/lang/Cloneable" (some 0) with
  accessFlags := 1537
  interfaces := #[]
  cf := some (fileOf pool14 2 #[] #[] 1537 4 #[] #[])
  fields := #[]
  methods := #[]
  instanceTypes := #[]
  staticTypes := #[]
  resolved := Array.replicate 8 none
  statics := none }

/-- the primitive byte -/
def k15 : Class := { plain "byte" none with kind := .primitive 'B', accessFlags := 0x411 }
/-- [B -/
def k16 : Class := { plain "[B" (some 0) with kind := .array 15 .byte, interfaces := #[14, 2], accessFlags := 1041 }

/-- the primitive char -/
def k17 : Class := { plain "char" none with kind := .primitive 'C', accessFlags := 0x411 }
/-- [C -/
def k18 : Class := { plain "[C" (some 0) with kind := .array 17 .char, interfaces := #[14, 2], accessFlags := 1041 }

/-- the primitive int -/
def k19 : Class := { plain "int" none with kind := .primitive 'I', accessFlags := 0x411 }
/-- [I -/
def k20 : Class := { plain "[I" (some 0) with kind := .array 19 .int, interfaces := #[14, 2], accessFlags := 1041 }

def heap : Heap := #[{ cls := 7, slots := #[.long 0, .int 1, .null, .int 0, .null, .int 0, .int 0], vm := .statics 7 },
  { cls := 13, slots := #[.null, .null, .null], vm := .statics 13 }]
def classes : Array Class := #[k0, k1, k2, k3, k4, k5, k6, k7, k8, k9, k10, k11, k12, k13, k14, k15, k16, k17, k18, k19, k20]
def interned : List (Array UInt16 × Addr) := []
def slotsUsed : Nat := 10
def theMethod : MethodId := ⟨1, 3⟩
def args0 : Array Value := #[.int 5, .int 6, .int 7, .int 8, .int 9]
def aboutOver (below : List Frame) : State where
  vm := { classes := classes, interned := interned.toArray }
  heap := heap
  slotsUsed := slotsUsed
  threads := #[{ frames := .invoking theMethod args0 :: below }]
def below0 : List Frame := [.native { method := ⟨0, 0⟩, args := #[] }]
def about1 : State := aboutOver below0
def p0 : Program := .bare "" "" ""
def e0 : Env := launch0.env 0 0 0
theorem w_frames : about1.frames = Frame.invoking theMethod args0 :: below0 := rfl
set_option maxRecDepth 65536 in
theorem w_args : argsFit about1.vm theMethod args0 = true := by decide +kernel
set_option maxRecDepth 65536 in
theorem w_heap : heapFits about1 = true := by decide +kernel
set_option maxRecDepth 65536 in
theorem w_runnable : about1.curStatus? = some .runnable := by decide +kernel
set_option maxRecDepth 65536 in
theorem w_alone : about1.alone = true := by decide +kernel
set_option maxRecDepth 65536 in
theorem w_named : about1.methodNamed? x = some theMethod := by decide +kernel
set_option maxRecDepth 65536 in
theorem w_hears : about1.hears theMethod below0 = true := by decide +kernel
set_option maxRecDepth 65536 in
theorem w_ripe : about1.ripe theMethod args0 below0 = true := by decide +kernel
theorem w_running : about1.status = .running := rfl
set_option maxRecDepth 65536 in
theorem w_room : about1.hasRoom e0.platform room_1 = true :=
  launch0.hasRoom_least _ room_1 (by decide +kernel) (by decide +kernel) (by decide +kernel) (by decide +kernel) (by decide +kernel) (by decide +kernel)
theorem allAtoms_all (ts : List Jvm.Cond) (a : Array Jvm.Value) (st : Jvm.State) : (allAtoms ts).before a st = ts.all (fun c => c.before a st) := by
  induction ts with
  | nil => rfl
  | cons c t ih =>
    show (Jvm.Cond.and c (allAtoms t)).before a st = _
    rw [Jvm.Cond.before_and, ih, List.all_cons]
def words1 : List Jvm.Cond := Jvm.Cond.code x code maxLocals ret :: tables_1
/-- a 'code' word, met by the world's own term for the bytes: nothing is compared byte by byte -/
theorem code_word {y : MethodName} {bytes : ByteArray} {mx : Nat} {rt : Option FieldType} {a : Array Value} {s : State} {m : MethodId} {meth : Method} {c : Code} (h1 : s.methodNamed? y = some m) (h2 : s.vm.method? m = some meth) (h3 : meth.code = some c) (h4 : c.code = bytes)
    (h5 : (c.maxLocals == mx && c.exceptionTable.isEmpty && decide (c.maxStack ≤ mostOperands) && decide (meth.sig.returnType = rt) && !meth.locks && decide (parseMethodDescriptor y.desc = some meth.sig)) = true) : (Jvm.Cond.code y bytes mx rt).before a s = true := by
  simp only [Bool.and_eq_true, beq_iff_eq, Bool.not_eq_true', decide_eq_true_eq] at h5
  obtain ⟨⟨⟨⟨⟨g1, g2⟩, g3⟩, g4⟩, g5⟩, g6⟩ := h5
  simp [Cond.before, Cond.holds, Cond.value, h1, h2, h3, h4, g1, g2, g3, g4, g5, g6]
def isCode : Jvm.Cond → Bool
  | .code _ _ _ _ => true
  | _ => false
theorem all_split {L : List Jvm.Cond} {P : Jvm.Cond → Bool} (h1 : L.all (fun c => isCode c || P c) = true) (h2 : ∀ c ∈ L.filter isCode, P c = true) : L.all P = true := by
  refine List.all_eq_true.mpr fun c hc => ?_
  have h := List.all_eq_true.mp h1 c hc
  rcases Bool.eq_false_or_eq_true (isCode c) with hi | hi
  · exact h2 c (List.mem_filter.mpr ⟨hc, hi⟩)
  · simpa [hi] using h
set_option maxRecDepth 65536 in
theorem w_c0 : (Jvm.Cond.code x code maxLocals ret).before args0 about1 = true := code_word (m := ⟨1, 3⟩) (meth := k1m3) (c := k1c3) (by decide +kernel) rfl rfl rfl (by decide +kernel)
set_option maxRecDepth 65536 in
theorem w_c1 : (Jvm.Cond.code ({ cls := "com/example/evenkeel/evenkeel/RouteEqualsPinLaw", name := "mk", desc := "(III)Ljava/lang/String;" } : Jvm.MethodName) method_2_code (3 : Nat) (Option.some (Jvm.ClassFile.FieldType.object "java/lang/String"))).before args0 about1 = true := code_word (m := ⟨1, 1⟩) (meth := k1m1) (c := k1c1) (by decide +kernel) rfl rfl rfl (by decide +kernel)
set_option maxRecDepth 65536 in
theorem w_c2 : (Jvm.Cond.code ({ cls := "java/lang/String", name := "<init>", desc := "([C)V" } : Jvm.MethodName) jdk_42_method_3_code (2 : Nat) (Option.none : Option Jvm.ClassFile.FieldType)).before args0 about1 = true := code_word (m := ⟨7, 1⟩) (meth := k7m1) (c := k7c1) (by decide +kernel) rfl rfl rfl (by decide +kernel)
set_option maxRecDepth 65536 in
theorem w_c3 : (Jvm.Cond.code ({ cls := "java/lang/String", name := "<init>", desc := "([CIILjava/lang/Void;)V" } : Jvm.MethodName) jdk_42_method_149_code (6 : Nat) (Option.none : Option Jvm.ClassFile.FieldType)).before args0 about1 = true := code_word (m := ⟨7, 4⟩) (meth := k7m4) (c := k7c4) (by decide +kernel) rfl rfl rfl (by decide +kernel)
set_option maxRecDepth 65536 in
theorem w_c4 : (Jvm.Cond.code ({ cls := "java/lang/Object", name := "<init>", desc := "()V" } : Jvm.MethodName) object_method_1_code (1 : Nat) (Option.none : Option Jvm.ClassFile.FieldType)).before args0 about1 = true := code_word (m := ⟨0, 0⟩) (meth := k0m0) (c := k0c0) (by decide +kernel) rfl rfl rfl (by decide +kernel)
set_option maxRecDepth 65536 in
theorem w_c5 : (Jvm.Cond.code ({ cls := "java/lang/StringUTF16", name := "compress", desc := "([CII)[B" } : Jvm.MethodName) jdk_52_method_16_code (6 : Nat) (Option.some (Jvm.ClassFile.FieldType.array Jvm.ClassFile.FieldType.byte))).before args0 about1 = true := code_word (m := ⟨8, 2⟩) (meth := k8m2) (c := k8c2) (by decide +kernel) rfl rfl rfl (by decide +kernel)
set_option maxRecDepth 65536 in
theorem w_c6 : (Jvm.Cond.code ({ cls := "java/lang/StringUTF16", name := "compress", desc := "([CI[BII)I" } : Jvm.MethodName) jdk_52_method_21_code (7 : Nat) (Option.some Jvm.ClassFile.FieldType.int)).before args0 about1 = true := code_word (m := ⟨8, 3⟩) (meth := k8m3) (c := k8c3) (by decide +kernel) rfl rfl rfl (by decide +kernel)
set_option maxRecDepth 65536 in
theorem w_c7 : (Jvm.Cond.code ({ cls := "java/lang/StringUTF16", name := "coderFromArrayLen", desc := "([BI)B" } : Jvm.MethodName) jdk_52_method_15_code (2 : Nat) (Option.some Jvm.ClassFile.FieldType.byte)).before args0 about1 = true := code_word (m := ⟨8, 1⟩) (meth := k8m1) (c := k8c1) (by decide +kernel) rfl rfl rfl (by decide +kernel)
set_option maxRecDepth 65536 in
theorem w_c8 : (Jvm.Cond.code ({ cls := "com/example/evenkeel/evenkeel/Route", name := "<init>", desc := "(Ljava/lang/String;Ljava/lang/String;)V" } : Jvm.MethodName) prog_27_method_1_code (3 : Nat) (Option.none : Option Jvm.ClassFile.FieldType)).before args0 about1 = true := code_word (m := ⟨9, 0⟩) (meth := k9m0) (c := k9c0) (by decide +kernel) rfl rfl rfl (by decide +kernel)
set_option maxRecDepth 65536 in
theorem w_c9 : (Jvm.Cond.code ({ cls := "java/util/Objects", name := "requireNonNull", desc := "(Ljava/lang/Object;Ljava/lang/String;)Ljava/lang/Object;" } : Jvm.MethodName) jdk_31_method_11_code (2 : Nat) (Option.some (Jvm.ClassFile.FieldType.object "java/lang/Object"))).before args0 about1 = true := code_word (m := ⟨10, 1⟩) (meth := k10m1) (c := k10c1) (by decide +kernel) rfl rfl rfl (by decide +kernel)
set_option maxRecDepth 65536 in
theorem w_c10 : (Jvm.Cond.code ({ cls := "java/lang/String", name := "hashCode", desc := "()I" } : Jvm.MethodName) jdk_42_method_78_code (2 : Nat) (Option.some Jvm.ClassFile.FieldType.int)).before args0 about1 = true := code_word (m := ⟨7, 3⟩) (meth := k7m3) (c := k7c3) (by decide +kernel) rfl rfl rfl (by decide +kernel)
set_option maxRecDepth 65536 in
theorem w_c11 : (Jvm.Cond.code ({ cls := "java/lang/String", name := "isLatin1", desc := "()Z" } : Jvm.MethodName) jdk_42_method_154_code (1 : Nat) (Option.some Jvm.ClassFile.FieldType.boolean)).before args0 about1 = true := code_word (m := ⟨7, 5⟩) (meth := k7m5) (c := k7c5) (by decide +kernel) rfl rfl rfl (by decide +kernel)
set_option maxRecDepth 65536 in
theorem w_c12 : (Jvm.Cond.code ({ cls := "java/lang/StringLatin1", name := "hashCode", desc := "([B)I" } : Jvm.MethodName) jdk_43_method_21_code (1 : Nat) (Option.some Jvm.ClassFile.FieldType.int)).before args0 about1 = true := code_word (m := ⟨11, 2⟩) (meth := k11m2) (c := k11c2) (by decide +kernel) rfl rfl rfl (by decide +kernel)
set_option maxRecDepth 65536 in
theorem w_c13 : (Jvm.Cond.code ({ cls := "jdk/internal/util/ArraysSupport", name := "vectorizedHashCode", desc := "(Ljava/lang/Object;IIII)I" } : Jvm.MethodName) jdk_48_method_4_code (5 : Nat) (Option.some Jvm.ClassFile.FieldType.int)).before args0 about1 = true := code_word (m := ⟨12, 1⟩) (meth := k12m1) (c := k12c1) (by decide +kernel) rfl rfl rfl (by decide +kernel)
set_option maxRecDepth 65536 in
theorem w_c14 : (Jvm.Cond.code ({ cls := "jdk/internal/util/ArraysSupport", name := "signedHashCode", desc := "(I[BII)I" } : Jvm.MethodName) jdk_48_method_5_code (6 : Nat) (Option.some Jvm.ClassFile.FieldType.int)).before args0 about1 = true := code_word (m := ⟨12, 2⟩) (meth := k12m2) (c := k12c2) (by decide +kernel) rfl rfl rfl (by decide +kernel)
set_option maxRecDepth 65536 in
theorem w_c15 : (Jvm.Cond.code ({ cls := "com/example/evenkeel/evenkeel/RouteEqualsPinLaw", name := "same", desc := "(IIIIII)Z" } : Jvm.MethodName) method_3_code (6 : Nat) (Option.some Jvm.ClassFile.FieldType.boolean)).before args0 about1 = true := code_word (m := ⟨1, 2⟩) (meth := k1m2) (c := k1c2) (by decide +kernel) rfl rfl rfl (by decide +kernel)
set_option maxRecDepth 65536 in
theorem w_c16 : (Jvm.Cond.code ({ cls := "com/example/evenkeel/evenkeel/Route", name := "equals", desc := "(Ljava/lang/Object;)Z" } : Jvm.MethodName) prog_27_method_4_code (3 : Nat) (Option.some Jvm.ClassFile.FieldType.boolean)).before args0 about1 = true := code_word (m := ⟨9, 1⟩) (meth := k9m1) (c := k9c1) (by decide +kernel) rfl rfl rfl (by decide +kernel)
set_option maxRecDepth 65536 in
theorem w_c17 : (Jvm.Cond.code ({ cls := "java/lang/String", name := "equals", desc := "(Ljava/lang/Object;)Z" } : Jvm.MethodName) jdk_42_method_66_code (3 : Nat) (Option.some Jvm.ClassFile.FieldType.boolean)).before args0 about1 = true := code_word (m := ⟨7, 2⟩) (meth := k7m2) (c := k7c2) (by decide +kernel) rfl rfl rfl (by decide +kernel)
set_option maxRecDepth 65536 in
theorem w_c18 : (Jvm.Cond.code ({ cls := "java/lang/StringLatin1", name := "equals", desc := "([B[B)Z" } : Jvm.MethodName) jdk_43_method_13_code (3 : Nat) (Option.some Jvm.ClassFile.FieldType.boolean)).before args0 about1 = true := code_word (m := ⟨11, 1⟩) (meth := k11m1) (c := k11c1) (by decide +kernel) rfl rfl rfl (by decide +kernel)
def codes1 : List Jvm.Cond := [Jvm.Cond.code x code maxLocals ret, Jvm.Cond.code ({ cls := "com/example/evenkeel/evenkeel/RouteEqualsPinLaw", name := "mk", desc := "(III)Ljava/lang/String;" } : Jvm.MethodName) method_2_code (3 : Nat) (Option.some (Jvm.ClassFile.FieldType.object "java/lang/String")), Jvm.Cond.code ({ cls := "java/lang/String", name := "<init>", desc := "([C)V" } : Jvm.MethodName) jdk_42_method_3_code (2 : Nat) (Option.none : Option Jvm.ClassFile.FieldType), Jvm.Cond.code ({ cls := "java/lang/String", name := "<init>", desc := "([CIILjava/lang/Void;)V" } : Jvm.MethodName) jdk_42_method_149_code (6 : Nat) (Option.none : Option Jvm.ClassFile.FieldType), Jvm.Cond.code ({ cls := "java/lang/Object", name := "<init>", desc := "()V" } : Jvm.MethodName) object_method_1_code (1 : Nat) (Option.none : Option Jvm.ClassFile.FieldType), Jvm.Cond.code ({ cls := "java/lang/StringUTF16", name := "compress", desc := "([CII)[B" } : Jvm.MethodName) jdk_52_method_16_code (6 : Nat) (Option.some (Jvm.ClassFile.FieldType.array Jvm.ClassFile.FieldType.byte)), Jvm.Cond.code ({ cls := "java/lang/StringUTF16", name := "compress", desc := "([CI[BII)I" } : Jvm.MethodName) jdk_52_method_21_code (7 : Nat) (Option.some Jvm.ClassFile.FieldType.int), Jvm.Cond.code ({ cls := "java/lang/StringUTF16", name := "coderFromArrayLen", desc := "([BI)B" } : Jvm.MethodName) jdk_52_method_15_code (2 : Nat) (Option.some Jvm.ClassFile.FieldType.byte), Jvm.Cond.code ({ cls := "com/example/evenkeel/evenkeel/Route", name := "<init>", desc := "(Ljava/lang/String;Ljava/lang/String;)V" } : Jvm.MethodName) prog_27_method_1_code (3 : Nat) (Option.none : Option Jvm.ClassFile.FieldType), Jvm.Cond.code ({ cls := "java/util/Objects", name := "requireNonNull", desc := "(Ljava/lang/Object;Ljava/lang/String;)Ljava/lang/Object;" } : Jvm.MethodName) jdk_31_method_11_code (2 : Nat) (Option.some (Jvm.ClassFile.FieldType.object "java/lang/Object")), Jvm.Cond.code ({ cls := "java/lang/String", name := "hashCode", desc := "()I" } : Jvm.MethodName) jdk_42_method_78_code (2 : Nat) (Option.some Jvm.ClassFile.FieldType.int), Jvm.Cond.code ({ cls := "java/lang/String", name := "isLatin1", desc := "()Z" } : Jvm.MethodName) jdk_42_method_154_code (1 : Nat) (Option.some Jvm.ClassFile.FieldType.boolean), Jvm.Cond.code ({ cls := "java/lang/StringLatin1", name := "hashCode", desc := "([B)I" } : Jvm.MethodName) jdk_43_method_21_code (1 : Nat) (Option.some Jvm.ClassFile.FieldType.int), Jvm.Cond.code ({ cls := "jdk/internal/util/ArraysSupport", name := "vectorizedHashCode", desc := "(Ljava/lang/Object;IIII)I" } : Jvm.MethodName) jdk_48_method_4_code (5 : Nat) (Option.some Jvm.ClassFile.FieldType.int), Jvm.Cond.code ({ cls := "jdk/internal/util/ArraysSupport", name := "signedHashCode", desc := "(I[BII)I" } : Jvm.MethodName) jdk_48_method_5_code (6 : Nat) (Option.some Jvm.ClassFile.FieldType.int), Jvm.Cond.code ({ cls := "com/example/evenkeel/evenkeel/RouteEqualsPinLaw", name := "same", desc := "(IIIIII)Z" } : Jvm.MethodName) method_3_code (6 : Nat) (Option.some Jvm.ClassFile.FieldType.boolean), Jvm.Cond.code ({ cls := "com/example/evenkeel/evenkeel/Route", name := "equals", desc := "(Ljava/lang/Object;)Z" } : Jvm.MethodName) prog_27_method_4_code (3 : Nat) (Option.some Jvm.ClassFile.FieldType.boolean), Jvm.Cond.code ({ cls := "java/lang/String", name := "equals", desc := "(Ljava/lang/Object;)Z" } : Jvm.MethodName) jdk_42_method_66_code (3 : Nat) (Option.some Jvm.ClassFile.FieldType.boolean), Jvm.Cond.code ({ cls := "java/lang/StringLatin1", name := "equals", desc := "([B[B)Z" } : Jvm.MethodName) jdk_43_method_13_code (3 : Nat) (Option.some Jvm.ClassFile.FieldType.boolean)]
set_option maxRecDepth 65536 in
theorem codes_eq : words1.filter isCode = codes1 := rfl
theorem w_codes : ∀ c ∈ words1.filter isCode, c.before args0 about1 = true := by
  rw [codes_eq]
  intro c hc
  simp only [codes1, List.mem_cons, List.not_mem_nil, or_false] at hc
  rcases hc with rfl | rfl | rfl | rfl | rfl | rfl | rfl | rfl | rfl | rfl | rfl | rfl | rfl | rfl | rfl | rfl | rfl | rfl | rfl
  · exact w_c0
  · exact w_c1
  · exact w_c2
  · exact w_c3
  · exact w_c4
  · exact w_c5
  · exact w_c6
  · exact w_c7
  · exact w_c8
  · exact w_c9
  · exact w_c10
  · exact w_c11
  · exact w_c12
  · exact w_c13
  · exact w_c14
  · exact w_c15
  · exact w_c16
  · exact w_c17
  · exact w_c18
set_option maxRecDepth 65536 in
theorem w_t1 : (words1.take 24).all (fun c => isCode c || c.before args0 about1) = true := by decide +kernel
set_option maxRecDepth 65536 in
theorem w_t2 : ((words1.drop 24).take 24).all (fun c => isCode c || c.before args0 about1) = true := by decide +kernel
set_option maxRecDepth 65536 in
theorem w_t3 : (((words1.drop 24).drop 24).take 24).all (fun c => isCode c || c.before args0 about1) = true := by decide +kernel
set_option maxRecDepth 65536 in
theorem w_t4 : ((((words1.drop 24).drop 24).drop 24).take 24).all (fun c => isCode c || c.before args0 about1) = true := by decide +kernel
set_option maxRecDepth 65536 in
theorem w_t5 : ((((words1.drop 24).drop 24).drop 24).drop 24).all (fun c => isCode c || c.before args0 about1) = true := by decide +kernel
theorem w_tables : (allAtoms (Jvm.Cond.code x code maxLocals ret :: tables_1)).before args0 about1 = true := by
  rw [allAtoms_all]
  show words1.all (fun c => c.before args0 about1) = true
  refine all_split ?_ w_codes
  rw [← List.take_append_drop 24 words1, List.all_append, w_t1, ← List.take_append_drop 24 (words1.drop 24), List.all_append, w_t2, ← List.take_append_drop 24 ((words1.drop 24).drop 24), List.all_append, w_t3, ← List.take_append_drop 24 (((words1.drop 24).drop 24).drop 24), List.all_append, w_t4, w_t5]
  rfl
set_option maxRecDepth 65536 in
theorem w_rest : rest_1_c.before args0 about1 = true := by decide +kernel
set_option maxRecDepth 65536 in
theorem w_case : (Jvm.Cond.and given_1 narrow_1).before args0 about1 = true := by decide +kernel
set_option maxRecDepth 65536 in
theorem w_consts : constsHeld consts_1 about1 := Jvm.Lit.constsHeldB_iff.mp (by decide +kernel)
theorem w_applies : (headSpec (Jvm.Cond.code x code maxLocals ret :: tables_1) room_1).applies x e0.platform about1 = true :=
  (Spec.applies_iff w_frames).mpr ⟨w_running, w_runnable, w_alone, w_named, w_hears, w_ripe, w_room, w_tables⟩
theorem atStart : AtStart classFile x code maxLocals ret World_1 tables_1 room_1 Calls_1 rest_1 Pre_1 launch0 p0 e0 about1 theMethod args0 below0 :=
  ⟨lists_1, trivial, launch0.admits_env _ _ _, launch0.least_env, fairChoices_fair.cas, fairChoices_fair.clock, w_frames, w_args, w_heap, w_applies, ⟨w_consts, trivial⟩, w_rest, w_case⟩
end start1
theorem witness_1 : WitnessClaimed_1 := ⟨start1.p0, start1.e0, start1.about1, start1.theMethod, start1.args0, start1.below0, start1.atStart⟩
end Jvm.Pilot.@@N@@
