import JvmDerived
import JvmDerived.Pilot.@@N@@Statement
import JvmDerived.Pilot.@@N@@Code
set_option linter.unusedVariables false
set_option linter.unusedSimpArgs false
/- laws to paste: Road.backV, Road.codOf, narrow_ch, shr0, lo8_mask, pair_says, Road.lenW (cut by pick.py; bodies as the Statement names them) -/
namespace Jvm.Pilot.@@N@@
namespace StrChars
open Jvm Sem ClassFile Op Lib Jvm.Stand Jvm.Free.XT Jvm.Free.ALB Jvm.Free.JM Jvm.Free
open Jvm.Lib.Cold (StaticIs)
/-- a char array whose places are chars -/
def Ch (a : Addr) (A : Cell) (U : State) : Prop := Arr .char a A U ∧ Typed .char A
theorem Ch.mv {a : Addr} {A : Cell} {U U' : State} (h : Ch a A U) (hal : U.vm.Alike U'.vm) (hh : U'.heap = U.heap) : Ch a A U' := ⟨h.1.mv hal hh, h.2⟩
theorem Ch.keep {a : Addr} {A : Cell} {U U' : State} (h : Ch a A U) (hal : U.vm.Alike U'.vm) (hk : U'.heap[a]? = some A) : Ch a A U' := ⟨h.1.keep hal hk, h.2⟩
/-- what place i of a char[]'s cell holds -/
def cv (A : Cell) (i : Nat) : Int32 := match A.slots[i]? with | some (.int x) => x | _ => 0
theorem Ch.get {a : Addr} {A : Cell} {U : State} (h : Ch a A U) {i : Nat} (hi : i < A.slots.size) : A.slots[i]? = some (.int (cv A i)) := by
  have e := Array.getElem?_eq_getElem hi
  have f := h.2 i _ e
  unfold cv; rw [e]
  generalize A.slots[i] = v at f
  cases v <;> simp [fits] at f ⊢
/-- the byte that i2b leaves of a char -/
def lo8 (x : Int32) : Int32 := x.toInt8.toInt32
theorem fits_lo8 (y : Int32) : fits .byte (.int (lo8 y)) = true := by
  have h1 := y.toInt8.le_toInt
  have h2 := y.toInt8.toInt_lt
  simp only [lo8, fits, Bool.and_eq_true, decide_eq_true_eq, Int32.le_iff_toInt_le, Int8.toInt_toInt32, show (-128 : Int32).toInt = -128 from by decide, show (127 : Int32).toInt = 127 from by decide]
  omega
/-- A' is A but that each place j of lo .. hi - 1 holds f j -/
def Laid (A A' : Cell) (lo hi : Nat) (f : Nat → Value) : Prop := A'.cls = A.cls ∧ A'.vm = A.vm ∧ A'.slots.size = A.slots.size ∧ ∀ i, A'.slots[i]? = if lo ≤ i ∧ i < hi then some (f i) else A.slots[i]?
theorem Laid.zero (A : Cell) (lo : Nat) (f : Nat → Value) : Laid A A lo (lo + 0) f := ⟨rfl, rfl, rfl, fun i => by rw [if_neg (by omega)]⟩
theorem Laid.step {A Ak : Cell} {lo k : Nat} {f : Nat → Value} {v : Value} (h : Laid A Ak lo k f) (hlo : lo ≤ k) (hk : k < Ak.slots.size) (hv : v = f k) : Laid A (Ak.setSlot k v) lo (k + 1) f := by
  refine ⟨h.1, h.2.1, by simpa [Cell.setSlot] using h.2.2.1, fun i => ?_⟩
  by_cases e : k = i
  · subst e; rw [Cell.slots_setSlot_self v hk, if_pos (by omega), hv]
  · rw [Cell.slots_setSlot_ne v e, h.2.2.2 i]
    by_cases q : lo ≤ i ∧ i < k
    · rw [if_pos q, if_pos (by omega)]
    · rw [if_neg q, if_neg (by omega)]
def U16 : String := "java/lang/StringUTF16"
namespace Cmp5
def yN : MethodName := ⟨"java/lang/StringUTF16", "compress", "([CI[BII)I"⟩
abbrev yB : ByteArray := jdk_52_method_21_code
theorem d0 : decode yB 0 = .ok (.iconst 0, 1) := by decide +kernel
theorem d1 : decode yB 1 = .ok (.istore 5, 2) := by decide +kernel
theorem d3 : decode yB 3 = .ok (.iload 5, 2) := by decide +kernel
theorem d5 : decode yB 5 = .ok (.iload 4, 2) := by decide +kernel
theorem d7 : decode yB 7 = .ok (.if_icmp (.ge) 37, 3) := by decide +kernel
theorem d10 : decode yB 10 = .ok (.aload_n 0, 1) := by decide +kernel
theorem d11 : decode yB 11 = .ok (.iload_n 1, 1) := by decide +kernel
theorem d12 : decode yB 12 = .ok (.caload, 1) := by decide +kernel
theorem d13 : decode yB 13 = .ok (.istore 6, 2) := by decide +kernel
theorem d15 : decode yB 15 = .ok (.iload 6, 2) := by decide +kernel
theorem d17 : decode yB 17 = .ok (.sipush 255, 3) := by decide +kernel
theorem d20 : decode yB 20 = .ok (.if_icmp (.le) 6, 3) := by decide +kernel
theorem d26 : decode yB 26 = .ok (.aload_n 2, 1) := by decide +kernel
theorem d27 : decode yB 27 = .ok (.iload_n 3, 1) := by decide +kernel
theorem d28 : decode yB 28 = .ok (.iload 6, 2) := by decide +kernel
theorem d30 : decode yB 30 = .ok (.i2b, 1) := by decide +kernel
theorem d31 : decode yB 31 = .ok (.bastore, 1) := by decide +kernel
theorem d32 : decode yB 32 = .ok (.iinc 1 1, 3) := by decide +kernel
theorem d35 : decode yB 35 = .ok (.iinc 3 1, 3) := by decide +kernel
theorem d38 : decode yB 38 = .ok (.iinc 5 1, 3) := by decide +kernel
theorem d41 : decode yB 41 = .ok (.goto (-38), 3) := by decide +kernel
theorem d44 : decode yB 44 = .ok (.iload 4, 2) := by decide +kernel
theorem d46 : decode yB 46 = .ok (.ireturn, 1) := by decide +kernel
def site : List Cond := []
def tab : Cond := tabOf yN yB 7 (some .int) site
def P (b : Addr) (A : Cell) (d : Addr) (B : Cell) (o q len : Nat) (args : Array Value) (s : State) : Prop := args = #[.ref b, .int (Int32.ofNat o), .ref d, .int (Int32.ofNat q), .int (Int32.ofNat len)] ∧ Ch b A s ∧ Arr .byte d B s ∧ b ≠ d ∧ o + len ≤ A.slots.size ∧ q + len ≤ B.slots.size ∧ ∀ i, i < len → ¬ 255 < cv A (o + i)
def E (b : Addr) (A : Cell) (d : Addr) (B : Cell) (o q len : Nat) (r : Option Value) (s u : State) : Prop := r = some (.int (Int32.ofNat len)) ∧ ∃ B', Put d B' s u ∧ Laid B B' q (q + len) (fun j => Value.int (lo8 (cv A (o + (j - q)))))
/-- no char of the range above 255: len; the places written hold each char's low byte -/
theorem law (l : Launch) (b : Addr) (A : Cell) (d : Addr) (B : Cell) (o q len : Nat) : Law l yN 5 5 0 0 yB 7 (some .int) site (P b A d B o q len) (E b A d B o q len) (copyLocs d q len) 0 0 := by
  refine Law.of_walk (plainFor_of_name (by decide +kernel)) (by decide +kernel) (by decide +kernel) (by decide) (fun _ _ h => by rw [h.1]; rfl) (fun _ U U' hal hh h => ⟨h.1, h.2.1.mv hal hh, h.2.2.1.mv hal hh, h.2.2.2⟩) (fun r U U' V V' h1 hal h2 h => ⟨h.1, h.2.elim fun B' q => ⟨B', q.1.mv h1 h2, q.2⟩⟩) ?_
  intro p e s m args below meth c s₁ X0 hexec hbytes hml hret hlk hnm hown hh0 W hP
  obtain ⟨rfl, hA, hB, hne, l1, l2, hp⟩ := hP
  have c1 : Steps p.tables e below (s₁.setTop (entryFrame m #[.ref b, .int (Int32.ofNat o), .ref d, .int (Int32.ofNat q), .int (Int32.ofNat len)] 7)) (s₁.setTop (mkF m 0 #[.val (.ref b), .val (.int (Int32.ofNat o)), .val (.ref d), .val (.int (Int32.ofNat q)), .val (.int (Int32.ofNat len)), .unset, .unset] [])) := entry rfl
  have hA0 := hA.1.mv X0.warmed.alike hh0
  have hB0 := hB.mv X0.warmed.alike hh0
  have a31 := hA.1.2.2.2
  have c2 : Steps p.tables e below (s₁.setTop (entryFrame m #[.ref b, .int (Int32.ofNat o), .ref d, .int (Int32.ofNat q), .int (Int32.ofNat len)] 7)) (s₁.setTop (mkF m 3 #[.val (.ref b), .val (.int (Int32.ofNat o)), .val (.ref d), .val (.int (Int32.ofNat q)), .val (.int (Int32.ofNat len)), .val (.int 0), .unset] [])) := c1.trans (by
    refine iconstV X0.here hexec rfl 0 (hb hbytes d0) (by decide) ?_
    refine XS.istore X0.here hexec rfl (hb hbytes d1) rfl rfl ?_
    exact Steps.refl _)
  have loop : ∀ (r i : Nat), i + r = len → ∀ (z : Slot), (z = .unset ∨ ∃ w, z = .val w ∧ w.category = 1) → ∀ (Tl : State) (Bk : Cell), Stand p l e { frames := 0, locals := 0, cells := 0, slots := 0 } s m #[.ref b, .int (Int32.ofNat o), .ref d, .int (Int32.ofNat q), .int (Int32.ofNat len)] below meth c Tl ([] ++ copyLocs d q i) 0 0 → Put d Bk s₁ Tl → Laid B Bk q (q + i) (fun j => Value.int (lo8 (cv A (o + (j - q))))) →
      Steps p.tables e below (s₁.setTop (entryFrame m #[.ref b, .int (Int32.ofNat o), .ref d, .int (Int32.ofNat q), .int (Int32.ofNat len)] 7)) (Tl.setTop (mkF m 3 #[.val (.ref b), .val (.int (Int32.ofNat (o + i))), .val (.ref d), .val (.int (Int32.ofNat (q + i))), .val (.int (Int32.ofNat len)), .val (.int (Int32.ofNat i)), z] [])) → ∃ (T' : State) (B' : Cell) (z' : Slot), Stand p l e { frames := 0, locals := 0, cells := 0, slots := 0 } s m #[.ref b, .int (Int32.ofNat o), .ref d, .int (Int32.ofNat q), .int (Int32.ofNat len)] below meth c T' ([] ++ copyLocs d q len) 0 0 ∧ Put d B' s₁ T' ∧ Laid B B' q (q + len) (fun j => Value.int (lo8 (cv A (o + (j - q))))) ∧
      Steps p.tables e below (s₁.setTop (entryFrame m #[.ref b, .int (Int32.ofNat o), .ref d, .int (Int32.ofNat q), .int (Int32.ofNat len)] 7)) (T'.setTop (mkF m 3 #[.val (.ref b), .val (.int (Int32.ofNat (o + len))), .val (.ref d), .val (.int (Int32.ofNat (q + len))), .val (.int (Int32.ofNat len)), .val (.int (Int32.ofNat len)), z'] [])) := by
    intro r
    induction r with
    | zero =>
      intro i hi z hz Tl Bk Xl pl fl cl
      have hil : i = len := by omega
      rw [hil] at Xl fl cl
      exact ⟨Tl, Bk, z, Xl, pl, fl, cl⟩
    | succ r ih =>
      intro i hi z hz Tl Bk Xl pl fl cl
      have all := X0.warmed.alike.symm.trans Xl.warmed.alike
      have hAl := hA0.keep all (pl.other hne hA0.1)
      have hBk := hB0.like all pl.1 fl.1 fl.2.1 fl.2.2.1
      have hlt : q + i < Bk.slots.size := by rw [fl.2.2.1]; omega
      have c3 : Steps p.tables e below (s₁.setTop (entryFrame m #[.ref b, .int (Int32.ofNat o), .ref d, .int (Int32.ofNat q), .int (Int32.ofNat len)] 7)) (Tl.setTop (mkF m 12 #[.val (.ref b), .val (.int (Int32.ofNat (o + i))), .val (.ref d), .val (.int (Int32.ofNat (q + i))), .val (.int (Int32.ofNat len)), .val (.int (Int32.ofNat i)), z] [.int (Int32.ofNat (o + i)), .ref b])) := cl.trans (by
        refine XS.iload Xl.here hexec rfl (hb hbytes d3) rfl ?_
        refine XS.iload Xl.here hexec rfl (hb hbytes d5) rfl ?_
        refine XS.icmpNo Xl.here hexec rfl (hb hbytes d7) rfl (ii_ge_f (lt32 (by omega) (by omega))) ?_
        refine XS.aloadN Xl.here hexec rfl (hb hbytes d10) rfl rfl ?_
        refine XS.iloadN Xl.here hexec rfl (hb hbytes d11) rfl ?_
        exact Steps.refl _)
      have c4 : Steps p.tables e below (s₁.setTop (entryFrame m #[.ref b, .int (Int32.ofNat o), .ref d, .int (Int32.ofNat q), .int (Int32.ofNat len)] 7)) (Tl.setTop (mkF m 13 #[.val (.ref b), .val (.int (Int32.ofNat (o + i))), .val (.ref d), .val (.int (Int32.ofNat (q + i))), .val (.int (Int32.ofNat len)), .val (.int (Int32.ofNat i)), z] [.int (cv A (o + i))])) := c3.trans (by
        refine Xl.aget hexec hAl rfl (hA.get (i := o + i) (by omega)) rfl rfl (hb hbytes d12) ?_
        exact Steps.refl _)
      have c5 : Steps p.tables e below (s₁.setTop (entryFrame m #[.ref b, .int (Int32.ofNat o), .ref d, .int (Int32.ofNat q), .int (Int32.ofNat len)] 7)) (Tl.setTop (mkF m 15 #[.val (.ref b), .val (.int (Int32.ofNat (o + i))), .val (.ref d), .val (.int (Int32.ofNat (q + i))), .val (.int (Int32.ofNat len)), .val (.int (Int32.ofNat i)), .val (.int (cv A (o + i)))] [])) := c4.trans (by
        refine XS.istoreS Xl.here hexec rfl (hb hbytes d13) rfl rfl hz ?_
        exact Steps.refl _)
      have c6 : Steps p.tables e below (s₁.setTop (entryFrame m #[.ref b, .int (Int32.ofNat o), .ref d, .int (Int32.ofNat q), .int (Int32.ofNat len)] 7)) (Tl.setTop (mkF m 31 #[.val (.ref b), .val (.int (Int32.ofNat (o + i))), .val (.ref d), .val (.int (Int32.ofNat (q + i))), .val (.int (Int32.ofNat len)), .val (.int (Int32.ofNat i)), .val (.int (cv A (o + i)))] [.int (lo8 (cv A (o + i))), .int (Int32.ofNat (q + i)), .ref d])) := c5.trans (by
        refine XS.iload Xl.here hexec rfl (hb hbytes d15) rfl ?_
        refine sipushV Xl.here hexec rfl 255 (hb hbytes d17) (by decide) ?_
        refine XS.icmpYes Xl.here hexec rfl (pc0 := 20) rfl (hb hbytes d20) rfl (ii_le_t (hp i (by omega))) (by decide) rfl ?_
        refine XS.aloadN Xl.here hexec rfl (hb hbytes d26) rfl rfl ?_
        refine XS.iloadN Xl.here hexec rfl (hb hbytes d27) rfl ?_
        refine XS.iload Xl.here hexec rfl (hb hbytes d28) rfl ?_
        refine i2b Xl.here hexec rfl (hb hbytes d30) rfl ?_
        exact Steps.refl _)
      obtain ⟨T7, X7, p7, st7⟩ := Xl.aput hexec hBk rfl hlt rfl (fits_lo8 (cv A (o + i))) (g := (mkF m 31 #[.val (.ref b), .val (.int (Int32.ofNat (o + i))), .val (.ref d), .val (.int (Int32.ofNat (q + i))), .val (.int (Int32.ofNat len)), .val (.int (Int32.ofNat i)), .val (.int (cv A (o + i)))] [.int (lo8 (cv A (o + i))), .int (Int32.ofNat (q + i)), .ref d])) rfl (rest := []) rfl (hb hbytes d31)
      have c8 : Steps p.tables e below (s₁.setTop (entryFrame m #[.ref b, .int (Int32.ofNat o), .ref d, .int (Int32.ofNat q), .int (Int32.ofNat len)] 7)) (T7.setTop (mkF m 32 #[.val (.ref b), .val (.int (Int32.ofNat (o + i))), .val (.ref d), .val (.int (Int32.ofNat (q + i))), .val (.int (Int32.ofNat len)), .val (.int (Int32.ofNat i)), .val (.int (cv A (o + i)))] [])) := c6.trans (st7 _ (Steps.refl _))
      have c9 : Steps p.tables e below (s₁.setTop (entryFrame m #[.ref b, .int (Int32.ofNat o), .ref d, .int (Int32.ofNat q), .int (Int32.ofNat len)] 7)) (T7.setTop (mkF m 3 #[.val (.ref b), .val (.int (Int32.ofNat (o + i) + 1)), .val (.ref d), .val (.int (Int32.ofNat (q + i) + 1)), .val (.int (Int32.ofNat len)), .val (.int (Int32.ofNat i + 1)), .val (.int (cv A (o + i)))] [])) := c8.trans (by
        refine iincV X7.here hexec rfl 1 (hb hbytes d32) (by decide) rfl rfl ?_
        refine iincV X7.here hexec rfl 1 (hb hbytes d35) (by decide) rfl rfl ?_
        refine iincV X7.here hexec rfl 1 (hb hbytes d38) (by decide) rfl rfl ?_
        refine XS.goto X7.here hexec rfl (pc0 := 41) rfl (hb hbytes d41) (by decide) rfl ?_
        exact Steps.refl _)
      have c10 : Steps p.tables e below (s₁.setTop (entryFrame m #[.ref b, .int (Int32.ofNat o), .ref d, .int (Int32.ofNat q), .int (Int32.ofNat len)] 7)) (T7.setTop (mkF m 3 #[.val (.ref b), .val (.int (Int32.ofNat (o + (i + 1)))), .val (.ref d), .val (.int (Int32.ofNat (q + (i + 1)))), .val (.int (Int32.ofNat len)), .val (.int (Int32.ofNat (i + 1))), .val (.int (cv A (o + i)))] [])) := by
        have := c9
        rw [succ32, succ32, succ32] at this
        exact this
      exact ih (i + 1) (by omega) _ (Or.inr ⟨_, rfl, rfl⟩) T7 _ (by rw [copyLocs_step, ← List.append_assoc]; exact X7) (pl.trans p7) (fl.step (by omega) hlt (by simp)) c10
  obtain ⟨T9, B9, z9, X9, p9, f9, g9⟩ := loop len 0 (by omega) .unset (Or.inl rfl) s₁ B (by simpa [copyLocs] using X0) ⟨hB0.1, fun _ _ => rfl, rfl⟩ (Laid.zero _ _ _) c2
  have c11 : Steps p.tables e below (s₁.setTop (entryFrame m #[.ref b, .int (Int32.ofNat o), .ref d, .int (Int32.ofNat q), .int (Int32.ofNat len)] 7)) (T9.setTop (mkF m 46 #[.val (.ref b), .val (.int (Int32.ofNat (o + len))), .val (.ref d), .val (.int (Int32.ofNat (q + len))), .val (.int (Int32.ofNat len)), .val (.int (Int32.ofNat len)), z9] [.int (Int32.ofNat len)])) := g9.trans (by
    refine XS.iload X9.here hexec rfl (hb hbytes d3) rfl ?_
    refine XS.iload X9.here hexec rfl (hb hbytes d5) rfl ?_
    refine XS.icmpYes X9.here hexec rfl (pc0 := 7) rfl (hb hbytes d7) rfl (ii_ge_t (nlt32 (by omega) (Nat.le_refl _))) (by decide) rfl ?_
    refine XS.iload X9.here hexec rfl (hb hbytes d44) rfl ?_
    exact Steps.refl _)
  exact ⟨T9, some (.int (Int32.ofNat len)), _, _, _, X9, by simp, rfl, rfl, (fun h => by cases h), ⟨rfl, B9, p9.from hh0, f9⟩, fun fs hl => c11.trans (X9.ireturnOut hexec hret rfl (Or.inl rfl) (hb hbytes d46) hl)⟩
end Cmp5
namespace Cmp3
def yN : MethodName := ⟨"java/lang/StringUTF16", "compress", "([CII)[B"⟩
abbrev yB : ByteArray := jdk_52_method_16_code
theorem d0 : decode yB 0 = .ok (.iload_n 2, 1) := by decide +kernel
theorem d1 : decode yB 1 = .ok (.newarray .byte, 2) := by decide +kernel
theorem d3 : decode yB 3 = .ok (.astore_n 3, 1) := by decide +kernel
theorem d4 : decode yB 4 = .ok (.aload_n 0, 1) := by decide +kernel
theorem d5 : decode yB 5 = .ok (.iload_n 1, 1) := by decide +kernel
theorem d6 : decode yB 6 = .ok (.aload_n 3, 1) := by decide +kernel
theorem d7 : decode yB 7 = .ok (.iconst 0, 1) := by decide +kernel
theorem d8 : decode yB 8 = .ok (.iload_n 2, 1) := by decide +kernel
theorem d9 : decode yB 9 = .ok (.invokestatic 115, 3) := by decide +kernel
theorem d12 : decode yB 12 = .ok (.istore 4, 2) := by decide +kernel
theorem d14 : decode yB 14 = .ok (.iload 4, 2) := by decide +kernel
theorem d16 : decode yB 16 = .ok (.iload_n 2, 1) := by decide +kernel
theorem d17 : decode yB 17 = .ok (.if_icmp (.eq) 40, 3) := by decide +kernel
theorem d57 : decode yB 57 = .ok (.aload_n 3, 1) := by decide +kernel
theorem d58 : decode yB 58 = .ok (.areturn, 1) := by decide +kernel
def site : List Cond := [.arrayClass .byte, Cmp5.tab] ++ staticW U16 115 Cmp5.yN
def tab : Cond := tabOf yN yB 6 (some (.array .byte)) site
def P (b : Addr) (A : Cell) (o len : Nat) (args : Array Value) (s : State) : Prop := args = #[.ref b, .int (Int32.ofNat o), .int (Int32.ofNat len)] ∧ Ch b A s ∧ o + len ≤ A.slots.size ∧ len ≤ 536870912 ∧ ∀ i, i < len → ¬ 255 < cv A (o + i)
def E (b : Addr) (A : Cell) (o len : Nat) (r : Option Value) (s u : State) : Prop := NewArr .byte "[B" len (fun j => .int (lo8 (cv A (o + j)))) r s u ∧ u.heap.size = s.heap.size + 1
/-- no char of the range above 255: a new byte[] of their low bytes -/
theorem law (l : Launch) (b : Addr) (A : Cell) (o len : Nat) : Law l yN 3 3 1 18 yB 6 (some (.array .byte)) site (P b A o len) (E b A o len) [] 1 len := by
  refine Law.of_walk (plainFor_of_name (by decide +kernel)) (by decide +kernel) (by decide +kernel) (by decide) (fun _ _ h => by rw [h.1]; rfl) (fun _ U U' hal hh h => ⟨h.1, h.2.1.mv hal hh, h.2.2⟩) (fun r U U' V V' h1 hal h2 h => ⟨NewArr.mv r U U' V V' h1 hal h2 h.1, by rw [h1, h2]; exact h.2⟩) ?_
  intro p e s m args below meth c s₁ X0 hexec hbytes hml hret hlk hnm hown hh0 W hP
  obtain ⟨rfl, hA, l1, l2, hp⟩ := hP
  have a31 := hA.1.2.2.2
  have c1 : Steps p.tables e below (s₁.setTop (entryFrame m #[.ref b, .int (Int32.ofNat o), .int (Int32.ofNat len)] 6)) (s₁.setTop (mkF m 0 #[.val (.ref b), .val (.int (Int32.ofNat o)), .val (.int (Int32.ofNat len)), .unset, .unset, .unset] [])) := entry rfl
  have c2 : Steps p.tables e below (s₁.setTop (entryFrame m #[.ref b, .int (Int32.ofNat o), .int (Int32.ofNat len)] 6)) (s₁.setTop (mkF m 1 #[.val (.ref b), .val (.int (Int32.ofNat o)), .val (.int (Int32.ofNat len)), .unset, .unset, .unset] [.int (Int32.ofNat len)])) := c1.trans (by
    refine XS.iloadN X0.here hexec rfl (hb hbytes d0) rfl ?_
    exact Steps.refl _)
  obtain ⟨T3, B3, X3, ba3, bs3, bv3, bh3, bf3, st3⟩ := X0.anew hexec (atype := .byte) (wk W (.arrayClass .byte)) rfl (by show len * 1 ≤ _; omega) (by omega) (g := (mkF m 1 #[.val (.ref b), .val (.int (Int32.ofNat o)), .val (.int (Int32.ofNat len)), .unset, .unset, .unset] [.int (Int32.ofNat len)])) rfl (hb hbytes d1) (rest := []) rfl (Nat.le_refl _) (by show 0 + len ≤ len; omega)
  rw [hh0] at ba3 st3
  have kp3 : XT.Kept s T3 := (XT.Kept.of_eq hh0).push bh3
  have hA3 := hA.keep X3.warmed.alike (kp3 _ _ hA.1.1)
  have hne : b ≠ s.heap.size := hA.1.ne
  have c4 : Steps p.tables e below (s₁.setTop (entryFrame m #[.ref b, .int (Int32.ofNat o), .int (Int32.ofNat len)] 6)) (T3.setTop (mkF m 3 #[.val (.ref b), .val (.int (Int32.ofNat o)), .val (.int (Int32.ofNat len)), .unset, .unset, .unset] [.ref s.heap.size])) := c2.trans (st3 _ (Steps.refl _))
  have c5 : Steps p.tables e below (s₁.setTop (entryFrame m #[.ref b, .int (Int32.ofNat o), .int (Int32.ofNat len)] 6)) (T3.setTop (mkF m 9 #[.val (.ref b), .val (.int (Int32.ofNat o)), .val (.int (Int32.ofNat len)), .val (.ref s.heap.size), .unset, .unset] [.int (Int32.ofNat len), .int 0, .ref s.heap.size, .int (Int32.ofNat o), .ref b])) := c4.trans (by
    refine XS.astoreN X3.here hexec rfl (hb hbytes d3) rfl rfl rfl ?_
    refine XS.aloadN X3.here hexec rfl (hb hbytes d4) rfl rfl ?_
    refine XS.iloadN X3.here hexec rfl (hb hbytes d5) rfl ?_
    refine XS.aloadN X3.here hexec rfl (hb hbytes d6) rfl rfl ?_
    refine iconstV X3.here hexec rfl 0 (hb hbytes d7) (by decide) ?_
    refine XS.iloadN X3.here hexec rfl (hb hbytes d8) rfl ?_
    exact Steps.refl _)
  obtain ⟨v6, T6, X6, E6, g6⟩ := X3.callS hexec (Cmp5.law l b A s.heap.size B3 o 0 len) hown (wks W (staticW U16 115 Cmp5.yN)) (wk W Cmp5.tab) (W := 0) (Nat.le_of_ble_eq_true rfl) (Nat.le_of_ble_eq_true rfl) (Nat.le_refl _) (by show 0 + len + 0 ≤ len; omega) (g := (mkF m 9 #[.val (.ref b), .val (.int (Int32.ofNat o)), .val (.int (Int32.ofNat len)), .val (.ref s.heap.size), .unset, .unset] [.int (Int32.ofNat len), .int (Int32.ofNat 0), .ref s.heap.size, .int (Int32.ofNat o), .ref b])) rfl (by rw [hml]; rfl) c5 (argsL := [.ref b, .int (Int32.ofNat o), .ref s.heap.size, .int (Int32.ofNat 0), .int (Int32.ofNat len)]) (rest := []) rfl rfl (by show 2 * 0 + 0 ≤ _; decide) (hb hbytes d9) (⟨rfl, hA3, ba3, hne, l1, by rw [bs3]; simp, hp⟩)
  obtain ⟨rfl, B6, p6, f6⟩ := E6
  have c7 : Steps p.tables e below (s₁.setTop (entryFrame m #[.ref b, .int (Int32.ofNat o), .int (Int32.ofNat len)] 6)) (T6.setTop (mkF m 12 #[.val (.ref b), .val (.int (Int32.ofNat o)), .val (.int (Int32.ofNat len)), .val (.ref s.heap.size), .unset, .unset] [.int (Int32.ofNat len)])) := g6
  have c8 : Steps p.tables e below (s₁.setTop (entryFrame m #[.ref b, .int (Int32.ofNat o), .int (Int32.ofNat len)] 6)) (T6.setTop (mkF m 58 #[.val (.ref b), .val (.int (Int32.ofNat o)), .val (.int (Int32.ofNat len)), .val (.ref s.heap.size), .val (.int (Int32.ofNat len)), .unset] [.ref s.heap.size])) := c7.trans (by
    refine XS.istore X6.here hexec rfl (hb hbytes d12) rfl rfl ?_
    refine XS.iload X6.here hexec rfl (hb hbytes d14) rfl ?_
    refine XS.iloadN X6.here hexec rfl (hb hbytes d16) rfl ?_
    refine XS.icmpYes X6.here hexec rfl (pc0 := 17) rfl (hb hbytes d17) rfl (ii_eq_t rfl) (by decide) rfl ?_
    refine XS.aloadN X6.here hexec rfl (hb hbytes d57) rfl rfl ?_
    exact Steps.refl _)
  have X8 := X6.wide (L' := []) (cells' := 1) (slots' := len) (fun x hx hlt => by
    simp only [List.nil_append, copyLocs, List.mem_map, List.mem_range] at hx
    obtain ⟨i, -, rfl⟩ := hx
    exact absurd hlt (Nat.lt_irrefl _)) (Nat.le_refl _) (by omega)
  exact ⟨T6, some (.ref s.heap.size), _, _, _, X8, rfl, rfl, rfl, (fun h => by cases h), ⟨⟨rfl, B6, ba3.like (X3.warmed.alike.symm.trans X6.warmed.alike) p6.1 f6.1 f6.2.1 f6.2.2.1, f6.2.1.trans bv3, by rw [X6.warmed.alike.findClass, f6.1]; exact bf3, by rw [f6.2.2.1, bs3]; simp, fun j hj => by rw [f6.2.2.2 j, if_pos (by omega)]; rfl, kp3.put p6 (Nat.le_refl _)⟩, by rw [p6.2.2, bh3, hh0]; simp⟩, fun fs hl => c8.trans (X8.areturnOut hexec rfl hret rfl (hb hbytes d58) hl)⟩
end Cmp3
namespace CodL
def yN : MethodName := ⟨"java/lang/StringUTF16", "coderFromArrayLen", "([BI)B"⟩
abbrev yB : ByteArray := jdk_52_method_15_code
theorem d0 : decode yB 0 = .ok (.iload_n 1, 1) := by decide +kernel
theorem d1 : decode yB 1 = .ok (.aload_n 0, 1) := by decide +kernel
theorem d2 : decode yB 2 = .ok (.arraylength, 1) := by decide +kernel
theorem d3 : decode yB 3 = .ok (.isub, 1) := by decide +kernel
theorem d4 : decode yB 4 = .ok (.bipush 31, 2) := by decide +kernel
theorem d6 : decode yB 6 = .ok (.iushr, 1) := by decide +kernel
theorem d7 : decode yB 7 = .ok (.i2b, 1) := by decide +kernel
theorem d8 : decode yB 8 = .ok (.ireturn, 1) := by decide +kernel
def site : List Cond := []
def tab : Cond := tabOf yN yB 2 (some .byte) site
def P (d : Addr) (B : Cell) (args : Array Value) (s : State) : Prop := args = #[.ref d, .int (Int32.ofNat B.slots.size)] ∧ Arr .byte d B s
def E (r : Option Value) (s u : State) : Prop := XT.PureE (some (.int 0)) r s u
/-- an array as long as the number of chars: LATIN1 -/
theorem law (l : Launch) (d : Addr) (B : Cell) : Law l yN 2 2 0 0 yB 2 (some .byte) site (P d B) E [] 0 0 := by
  refine Law.of_walk (plainFor_of_name (by decide +kernel)) (by decide +kernel) (by decide +kernel) (by decide) (fun _ _ h => by rw [h.1]; rfl) (fun _ U U' hal hh h => ⟨h.1, h.2.mv hal hh⟩) (fun r U U' V V' h1 hal h2 h => XT.PureE.mv r U U' V V' h1 hal h2 h) ?_
  intro p e s m args below meth c s₁ X0 hexec hbytes hml hret hlk hnm hown hh0 W hP
  obtain ⟨rfl, hB⟩ := hP
  have hB0 := hB.mv X0.warmed.alike hh0
  have c1 : Steps p.tables e below (s₁.setTop (entryFrame m #[.ref d, .int (Int32.ofNat B.slots.size)] 2)) (s₁.setTop (mkF m 0 #[.val (.ref d), .val (.int (Int32.ofNat B.slots.size))] [])) := entry rfl
  have c2 : Steps p.tables e below (s₁.setTop (entryFrame m #[.ref d, .int (Int32.ofNat B.slots.size)] 2)) (s₁.setTop (mkF m 2 #[.val (.ref d), .val (.int (Int32.ofNat B.slots.size))] [.ref d, .int (Int32.ofNat B.slots.size)])) := c1.trans (by
    refine XS.iloadN X0.here hexec rfl (hb hbytes d0) rfl ?_
    refine XS.aloadN X0.here hexec rfl (hb hbytes d1) rfl rfl ?_
    exact Steps.refl _)
  have c3 : Steps p.tables e below (s₁.setTop (entryFrame m #[.ref d, .int (Int32.ofNat B.slots.size)] 2)) (s₁.setTop (mkF m 8 #[.val (.ref d), .val (.int (Int32.ofNat B.slots.size))] [.int (lo8 (ushr (Int32.ofNat B.slots.size - Int32.ofNat B.slots.size) 31))])) := c2.trans (by
    refine X0.alen hexec hB0 rfl rfl (hb hbytes d2) ?_
    refine XS.isub X0.here hexec rfl (hb hbytes d3) rfl ?_
    refine bipushV X0.here hexec rfl 31 (hb hbytes d4) (by decide) ?_
    refine iushr X0.here hexec rfl (hb hbytes d6) rfl ?_
    refine i2b X0.here hexec rfl (hb hbytes d7) rfl ?_
    exact Steps.refl _)
  have e0 : lo8 (ushr (Int32.ofNat B.slots.size - Int32.ofNat B.slots.size) 31) = 0 := by rw [Int32.sub_self]; decide
  rw [e0] at c3
  exact ⟨s₁, some (.int 0), _, _, _, X0, rfl, rfl, rfl, (fun h => by cases h), ⟨rfl, hh0⟩, fun fs hl => c3.trans (X0.ireturnOut hexec hret rfl (Or.inr (Or.inr (Or.inl rfl))) (hb hbytes d8) hl)⟩
end CodL
/-- the String at a is Latin-1 over a new byte[] (the heap's one new cell): the low bytes of the len chars of A from o on; every cell but a is kept -/
def Got (a : Addr) (D : Cell) (fV fC : Field) (A : Cell) (o len : Nat) (r : Option Value) (s u : State) : Prop := r = none ∧ ∃ D' V : Cell, Blank "java/lang/String" a D' u ∧ Same D D' [fV.slot, fC.slot] ∧ D'.slots[fV.slot]? = some (.ref s.heap.size) ∧ D'.slots[fC.slot]? = some (.int 0) ∧ Arr .byte s.heap.size V u ∧ V.vm = .none ∧ u.vm.findClass "[B" = some V.cls ∧ V.slots.size = len ∧ (∀ j, j < len → V.slots[j]? = some (.int (lo8 (cv A (o + j))))) ∧ (∀ (y : Addr) (c : Cell), y ≠ a → s.heap[y]? = some c → u.heap[y]? = some c) ∧ u.heap.size = s.heap.size + 1
theorem Got.mv {a : Addr} {D A : Cell} {fV fC : Field} {o len : Nat} : ∀ r (U U' V V' : State), U'.heap = U.heap → V.vm.Alike V'.vm → V'.heap = V.heap → Got a D fV fC A o len r U V → Got a D fV fC A o len r U' V' :=
  fun r U U' V V' h1 hal h2 ⟨e0, D', X, a1, a2, a3, a4, a5, a6, a7, a8, a9, a10, a11⟩ => ⟨e0, D', X, a1.mv hal h2, a2, by rw [h1]; exact a3, a4, by rw [h1]; exact a5.mv hal h2, a6, by rw [hal.findClass]; exact a7, a8, a9, by rw [h1, h2]; exact a10, by rw [h1, h2]; exact a11⟩
namespace New4
def yN : MethodName := ⟨"java/lang/String", "<init>", "([CIILjava/lang/Void;)V"⟩
abbrev yB : ByteArray := jdk_42_method_149_code
theorem d0 : decode yB 0 = .ok (.aload_n 0, 1) := by decide +kernel
theorem d1 : decode yB 1 = .ok (.invokespecial 1, 3) := by decide +kernel
theorem d4 : decode yB 4 = .ok (.iload_n 3, 1) := by decide +kernel
theorem d5 : decode yB 5 = .ok (.ifCond (.ne) 22, 3) := by decide +kernel
theorem d27 : decode yB 27 = .ok (.getstatic 38, 3) := by decide +kernel
theorem d30 : decode yB 30 = .ok (.ifCond (.eq) 28, 3) := by decide +kernel
theorem d33 : decode yB 33 = .ok (.aload_n 1, 1) := by decide +kernel
theorem d34 : decode yB 34 = .ok (.iload_n 2, 1) := by decide +kernel
theorem d35 : decode yB 35 = .ok (.iload_n 3, 1) := by decide +kernel
theorem d36 : decode yB 36 = .ok (.invokestatic 177, 3) := by decide +kernel
theorem d39 : decode yB 39 = .ok (.astore 5, 2) := by decide +kernel
theorem d41 : decode yB 41 = .ok (.aload_n 0, 1) := by decide +kernel
theorem d42 : decode yB 42 = .ok (.aload 5, 2) := by decide +kernel
theorem d44 : decode yB 44 = .ok (.iload_n 3, 1) := by decide +kernel
theorem d45 : decode yB 45 = .ok (.invokestatic 47, 3) := by decide +kernel
theorem d48 : decode yB 48 = .ok (.putfield 15, 3) := by decide +kernel
theorem d51 : decode yB 51 = .ok (.aload_n 0, 1) := by decide +kernel
theorem d52 : decode yB 52 = .ok (.aload 5, 2) := by decide +kernel
theorem d54 : decode yB 54 = .ok (.putfield 9, 3) := by decide +kernel
theorem d57 : decode yB 57 = .ok (.return_, 1) := by decide +kernel
def site : List Cond := [.fieldLink "java/lang/String" 38 "java/lang/String" "COMPACT_STRINGS" "Z", Cmp3.tab, CodL.tab, .laysFinal "java/lang/String" "java/lang/String" "value" "[B", .fieldLink "java/lang/String" 9 "java/lang/String" "value" "[B", .laysFinal "java/lang/String" "java/lang/String" "coder" "B", .fieldLink "java/lang/String" 15 "java/lang/String" "coder" "B"] ++ objW "java/lang/String" 1 ++ staticW "java/lang/String" 177 Cmp3.yN ++ staticW "java/lang/String" 47 CodL.yN
def tab : Cond := tabOf yN yB 6 none site
def P (a : Addr) (D : Cell) (fV fC : Field) (b : Addr) (A : Cell) (z : Int32) (o len : Nat) (args : Array Value) (s : State) : Prop := args = #[.ref a, .ref b, .int (Int32.ofNat o), .int (Int32.ofNat len), .null] ∧ Blank "java/lang/String" a D s ∧ Found "java/lang/String" "value" "[B" fV s ∧ Found "java/lang/String" "coder" "B" fC s ∧ Ch b A s ∧ StaticIs s "java/lang/String" "COMPACT_STRINGS" "Z" (.int z) ∧ ¬ z = 0 ∧ 0 < len ∧ o + len ≤ A.slots.size ∧ len ≤ 536870912 ∧ ∀ i, i < len → ¬ 255 < cv A (o + i)
def E (a : Addr) (D : Cell) (fV fC : Field) (A : Cell) (o len : Nat) (r : Option Value) (s u : State) : Prop := Got a D fV fC A o len r s u
/-- len > 0, no char of the range above 255: a Latin-1 String of their low bytes -/
theorem law (l : Launch) (a : Addr) (D : Cell) (fV fC : Field) (b : Addr) (A : Cell) (z : Int32) (o len : Nat) : Law l yN 5 4 2 35 yB 6 none site (P a D fV fC b A z o len) (E a D fV fC A o len) [⟨a, fC.slot⟩, ⟨a, fV.slot⟩] 1 len := by
  refine Law.of_walk (plainFor_of_name (by decide +kernel)) (by decide +kernel) (by decide +kernel) (by decide) (fun _ _ h => by rw [h.1]; rfl) (fun _ U U' hal hh h => ⟨h.1, h.2.1.mv hal hh, h.2.2.1.al hal, h.2.2.2.1.al hal, h.2.2.2.2.1.mv hal hh, h.2.2.2.2.2.1.there hal hh, h.2.2.2.2.2.2⟩) (fun r U U' V V' h1 hal h2 h => Got.mv r U U' V V' h1 hal h2 h) ?_
  intro p e s m args below meth c s₁ X0 hexec hbytes hml hret hlk hnm hown hh0 W hP
  obtain ⟨rfl, hB, f1, f2, hA, s1, hz, l0, l1, l2, hp⟩ := hP
  have a31 := hA.1.2.2.2
  have c1 : Steps p.tables e below (s₁.setTop (entryFrame m #[.ref a, .ref b, .int (Int32.ofNat o), .int (Int32.ofNat len), .null] 6)) (s₁.setTop (mkF m 0 #[.val (.ref a), .val (.ref b), .val (.int (Int32.ofNat o)), .val (.int (Int32.ofNat len)), .val .null, .unset] [])) := entry rfl
  have c2 : Steps p.tables e below (s₁.setTop (entryFrame m #[.ref a, .ref b, .int (Int32.ofNat o), .int (Int32.ofNat len), .null] 6)) (s₁.setTop (mkF m 1 #[.val (.ref a), .val (.ref b), .val (.int (Int32.ofNat o)), .val (.int (Int32.ofNat len)), .val .null, .unset] [.ref a])) := c1.trans (by
    refine XS.aloadN X0.here hexec rfl (hb hbytes d0) rfl rfl ?_
    exact Steps.refl _)
  obtain ⟨T3, X3, q3, st3⟩ := X0.oinit hexec hown (wks W (objW "java/lang/String" 1)) (g := (mkF m 1 #[.val (.ref a), .val (.ref b), .val (.int (Int32.ofNat o)), .val (.int (Int32.ofNat len)), .val .null, .unset] [.ref a])) rfl (by rw [hml]; rfl) (rest := []) rfl (hb hbytes d1) (W := 0) (by show 2 * 0 + 0 ≤ _; decide) (Nat.le_of_ble_eq_true rfl) (Nat.le_of_ble_eq_true rfl)
  have hh3 := q3.trans hh0
  have c4 : Steps p.tables e below (s₁.setTop (entryFrame m #[.ref a, .ref b, .int (Int32.ofNat o), .int (Int32.ofNat len), .null] 6)) (T3.setTop (mkF m 27 #[.val (.ref a), .val (.ref b), .val (.int (Int32.ofNat o)), .val (.int (Int32.ofNat len)), .val .null, .unset] [])) := (c2.trans (st3 _ (Steps.refl _))).trans (by
    refine XS.iloadN X3.here hexec rfl (hb hbytes d4) rfl ?_
    refine XS.ifYes X3.here hexec rfl (pc0 := 5) rfl (hb hbytes d5) rfl (i0_ne_t (nz32 (by omega) l0)) (by decide) rfl ?_
    exact Steps.refl _)
  obtain ⟨T5, X5, q5, st5⟩ := X3.sget hexec hown (wk W (.fieldLink "java/lang/String" 38 "java/lang/String" "COMPACT_STRINGS" "Z")) s1 (fun _ _ h => by rw [hh3]; exact h) (g := (mkF m 27 #[.val (.ref a), .val (.ref b), .val (.int (Int32.ofNat o)), .val (.int (Int32.ofNat len)), .val .null, .unset] [])) rfl (hb hbytes d27)
  have hh5 := q5.trans hh3
  have c6 : Steps p.tables e below (s₁.setTop (entryFrame m #[.ref a, .ref b, .int (Int32.ofNat o), .int (Int32.ofNat len), .null] 6)) (T5.setTop (mkF m 30 #[.val (.ref a), .val (.ref b), .val (.int (Int32.ofNat o)), .val (.int (Int32.ofNat len)), .val .null, .unset] [.int z])) := c4.trans (st5 _ (Steps.refl _))
  have c7 : Steps p.tables e below (s₁.setTop (entryFrame m #[.ref a, .ref b, .int (Int32.ofNat o), .int (Int32.ofNat len), .null] 6)) (T5.setTop (mkF m 36 #[.val (.ref a), .val (.ref b), .val (.int (Int32.ofNat o)), .val (.int (Int32.ofNat len)), .val .null, .unset] [.int (Int32.ofNat len), .int (Int32.ofNat o), .ref b])) := c6.trans (by
    refine XS.ifNo X5.here hexec rfl (hb hbytes d30) rfl (i0_eq_f hz) ?_
    refine XS.aloadN X5.here hexec rfl (hb hbytes d33) rfl rfl ?_
    refine XS.iloadN X5.here hexec rfl (hb hbytes d34) rfl ?_
    refine XS.iloadN X5.here hexec rfl (hb hbytes d35) rfl ?_
    exact Steps.refl _)
  obtain ⟨v8, T8, X8, E8, g8⟩ := X5.callS hexec (Cmp3.law l b A o len) hown (wks W (staticW "java/lang/String" 177 Cmp3.yN)) (wk W Cmp3.tab) (W := 0) (Nat.le_of_ble_eq_true rfl) (Nat.le_of_ble_eq_true rfl) (Nat.le_refl _) (by show 0 + len ≤ len; omega) (g := (mkF m 36 #[.val (.ref a), .val (.ref b), .val (.int (Int32.ofNat o)), .val (.int (Int32.ofNat len)), .val .null, .unset] [.int (Int32.ofNat len), .int (Int32.ofNat o), .ref b])) rfl (by rw [hml]; rfl) c7 (argsL := [.ref b, .int (Int32.ofNat o), .int (Int32.ofNat len)]) (rest := []) rfl rfl (by show 2 * 0 + 0 ≤ _; decide) (hb hbytes d36) (⟨rfl, hA.mv X5.warmed.alike hh5, l1, l2, hp⟩)
  obtain ⟨e8, z8⟩ := E8
  obtain ⟨rfl, N, n1, n2, n3, n4, n5, n6⟩ := NewArr.mv _ T5 s _ _ hh5.symm (Vm.Alike.refl _) rfl e8
  rw [hh5] at z8
  have hB1 := hB.keep X8.warmed.alike (n6 _ _ hB.1)
  have hne : s.heap.size ≠ a := (Nat.ne_of_lt (Array.getElem?_eq_some_iff.mp hB.1).1).symm
  have c9 : Steps p.tables e below (s₁.setTop (entryFrame m #[.ref a, .ref b, .int (Int32.ofNat o), .int (Int32.ofNat len), .null] 6)) (T8.setTop (mkF m 39 #[.val (.ref a), .val (.ref b), .val (.int (Int32.ofNat o)), .val (.int (Int32.ofNat len)), .val .null, .unset] [.ref s.heap.size])) := g8
  have c10 : Steps p.tables e below (s₁.setTop (entryFrame m #[.ref a, .ref b, .int (Int32.ofNat o), .int (Int32.ofNat len), .null] 6)) (T8.setTop (mkF m 45 #[.val (.ref a), .val (.ref b), .val (.int (Int32.ofNat o)), .val (.int (Int32.ofNat len)), .val .null, .val (.ref s.heap.size)] [.int (Int32.ofNat N.slots.size), .ref s.heap.size, .ref a])) := by
    have hc : Steps p.tables e below (s₁.setTop (entryFrame m #[.ref a, .ref b, .int (Int32.ofNat o), .int (Int32.ofNat len), .null] 6)) (T8.setTop (mkF m 45 #[.val (.ref a), .val (.ref b), .val (.int (Int32.ofNat o)), .val (.int (Int32.ofNat len)), .val .null, .val (.ref s.heap.size)] [.int (Int32.ofNat len), .ref s.heap.size, .ref a])) := c9.trans (by
      refine XS.astore X8.here hexec rfl (hb hbytes d39) rfl rfl rfl ?_
      refine XS.aloadN X8.here hexec rfl (hb hbytes d41) rfl rfl ?_
      refine XS.aload X8.here hexec rfl (hb hbytes d42) rfl rfl ?_
      refine XS.iloadN X8.here hexec rfl (hb hbytes d44) rfl ?_
      exact Steps.refl _)
    rw [n4]; exact hc
  obtain ⟨v11, T11, X11, E11, g11⟩ := X8.callS hexec (CodL.law l s.heap.size N) hown (wks W (staticW "java/lang/String" 47 CodL.yN)) (wk W CodL.tab) (W := 1) (Nat.le_of_ble_eq_true rfl) (Nat.le_of_ble_eq_true rfl) (Nat.le_refl _) (by show 0 + len + 0 ≤ len; omega) (g := (mkF m 45 #[.val (.ref a), .val (.ref b), .val (.int (Int32.ofNat o)), .val (.int (Int32.ofNat len)), .val .null, .val (.ref s.heap.size)] [.int (Int32.ofNat N.slots.size), .ref s.heap.size, .ref a])) rfl (by rw [hml]; rfl) c10 (argsL := [.ref s.heap.size, .int (Int32.ofNat N.slots.size)]) (rest := [.ref a]) rfl rfl (by show 2 * 0 + (1 + 0) ≤ _; decide) (hb hbytes d45) (⟨rfl, n1⟩)
  obtain ⟨rfl, q11⟩ := E11
  have hB11 := hB1.mv (X8.warmed.alike.symm.trans X11.warmed.alike) q11
  have c12 : Steps p.tables e below (s₁.setTop (entryFrame m #[.ref a, .ref b, .int (Int32.ofNat o), .int (Int32.ofNat len), .null] 6)) (T11.setTop (mkF m 48 #[.val (.ref a), .val (.ref b), .val (.int (Int32.ofNat o)), .val (.int (Int32.ofNat len)), .val .null, .val (.ref s.heap.size)] [.int 0, .ref a])) := g11
  obtain ⟨T13, X13, p13, bl13, sl13, st13⟩ := X11.finit hexec hown (wk W (.fieldLink "java/lang/String" 15 "java/lang/String" "coder" "B")) (Or.inr ⟨_, (wk W (.laysFinal "java/lang/String" "java/lang/String" "coder" "B"))⟩) (Or.inl ⟨rfl, hnm⟩) f2 (Or.inl rfl) hB11 (t := .byte) (by decide +kernel) rfl (g := (mkF m 48 #[.val (.ref a), .val (.ref b), .val (.int (Int32.ofNat o)), .val (.int (Int32.ofNat len)), .val .null, .val (.ref s.heap.size)] [.int 0, .ref a])) rfl (rest := []) rfl (hb hbytes d48)
  have c14 : Steps p.tables e below (s₁.setTop (entryFrame m #[.ref a, .ref b, .int (Int32.ofNat o), .int (Int32.ofNat len), .null] 6)) (T13.setTop (mkF m 54 #[.val (.ref a), .val (.ref b), .val (.int (Int32.ofNat o)), .val (.int (Int32.ofNat len)), .val .null, .val (.ref s.heap.size)] [.ref s.heap.size, .ref a])) := (c12.trans (st13 _ (Steps.refl _))).trans (by
    refine XS.aloadN X13.here hexec rfl (hb hbytes d51) rfl rfl ?_
    refine XS.aload X13.here hexec rfl (hb hbytes d52) rfl rfl ?_
    exact Steps.refl _)
  obtain ⟨T15, X15, p15, bl15, sl15, st15⟩ := X13.finit hexec hown (wk W (.fieldLink "java/lang/String" 9 "java/lang/String" "value" "[B")) (Or.inr ⟨_, (wk W (.laysFinal "java/lang/String" "java/lang/String" "value" "[B"))⟩) (Or.inl ⟨rfl, hnm⟩) f1 (Or.inl rfl) bl13 (t := (.array .byte)) (by decide +kernel) rfl (g := (mkF m 54 #[.val (.ref a), .val (.ref b), .val (.int (Int32.ofNat o)), .val (.int (Int32.ofNat len)), .val .null, .val (.ref s.heap.size)] [.ref s.heap.size, .ref a])) rfl (rest := []) rfl (hb hbytes d54)
  have c16 : Steps p.tables e below (s₁.setTop (entryFrame m #[.ref a, .ref b, .int (Int32.ofNat o), .int (Int32.ofNat len), .null] 6)) (T15.setTop (mkF m 57 #[.val (.ref a), .val (.ref b), .val (.int (Int32.ofNat o)), .val (.int (Int32.ofNat len)), .val .null, .val (.ref s.heap.size)] [])) := c14.trans (st15 _ (Steps.refl _))
  have ap := apart (Or.inr ⟨_, (wk W (.laysFinal "java/lang/String" "java/lang/String" "value" "[B"))⟩) (Or.inr ⟨_, (wk W (.laysFinal "java/lang/String" "java/lang/String" "coder" "B"))⟩) f1 f2 (t₁ := .array .byte) (t₂ := .byte) (by decide +kernel) (by decide +kernel) (by decide)
  have al := X8.warmed.alike.symm.trans X15.warmed.alike
  have n7 : T11.heap[s.heap.size]? = some N := by rw [q11]; exact n1.1
  exact ⟨T15, none, _, _, _, X15, by simp, rfl, by omega, (fun _ => rfl), ⟨rfl, _, N, bl15, ((Same.refl D _).set _ (by simp)).set _ (by simp), sl15, (Cell.slots_setSlot_ne _ ap).trans sl13, n1.keep al (p15.other hne (p13.other hne n7)), n2, by rw [al.findClass]; exact n3, n4, n5, fun y c h1 h2 => p15.other h1 (p13.other h1 (by rw [q11]; exact n6 y c h2)), by rw [p15.2.2, p13.2.2, q11]; exact z8⟩, fun fs hl => c16.trans (X15.returnOut hexec hret (hb hbytes d57) hl)⟩
end New4
namespace New1
def yN : MethodName := ⟨"java/lang/String", "<init>", "([C)V"⟩
abbrev yB : ByteArray := jdk_42_method_3_code
theorem d0 : decode yB 0 = .ok (.aload_n 0, 1) := by decide +kernel
theorem d1 : decode yB 1 = .ok (.aload_n 1, 1) := by decide +kernel
theorem d2 : decode yB 2 = .ok (.iconst 0, 1) := by decide +kernel
theorem d3 : decode yB 3 = .ok (.aload_n 1, 1) := by decide +kernel
theorem d4 : decode yB 4 = .ok (.arraylength, 1) := by decide +kernel
theorem d5 : decode yB 5 = .ok (.aconst_null, 1) := by decide +kernel
theorem d6 : decode yB 6 = .ok (.invokespecial 27, 3) := by decide +kernel
theorem d9 : decode yB 9 = .ok (.return_, 1) := by decide +kernel
def site : List Cond := [New4.tab] ++ initW "java/lang/String" 27 New4.yN
def tab : Cond := tabOf yN yB 2 none site
def P (a : Addr) (D : Cell) (fV fC : Field) (b : Addr) (A : Cell) (z : Int32) (args : Array Value) (s : State) : Prop := args = #[.ref a, .ref b] ∧ Blank "java/lang/String" a D s ∧ Found "java/lang/String" "value" "[B" fV s ∧ Found "java/lang/String" "coder" "B" fC s ∧ Ch b A s ∧ StaticIs s "java/lang/String" "COMPACT_STRINGS" "Z" (.int z) ∧ ¬ z = 0 ∧ 0 < A.slots.size ∧ A.slots.size ≤ 536870912 ∧ ∀ i, i < A.slots.size → ¬ 255 < cv A i
def E (a : Addr) (D : Cell) (fV fC : Field) (A : Cell) (r : Option Value) (s u : State) : Prop := Got a D fV fC A 0 A.slots.size r s u
/-- new String(chars), not empty, no char above 255: a Latin-1 String of their low bytes -/
theorem law (l : Launch) (a : Addr) (D : Cell) (fV fC : Field) (b : Addr) (A : Cell) (z : Int32) : Law l yN 2 1 3 52 yB 2 none site (P a D fV fC b A z) (E a D fV fC A) [⟨a, fC.slot⟩, ⟨a, fV.slot⟩] 1 A.slots.size := by
  refine Law.of_walk (plainFor_of_name (by decide +kernel)) (by decide +kernel) (by decide +kernel) (by decide) (fun _ _ h => by rw [h.1]; rfl) (fun _ U U' hal hh h => ⟨h.1, h.2.1.mv hal hh, h.2.2.1.al hal, h.2.2.2.1.al hal, h.2.2.2.2.1.mv hal hh, h.2.2.2.2.2.1.there hal hh, h.2.2.2.2.2.2⟩) (fun r U U' V V' h1 hal h2 h => Got.mv r U U' V V' h1 hal h2 h) ?_
  intro p e s m args below meth c s₁ X0 hexec hbytes hml hret hlk hnm hown hh0 W hP
  obtain ⟨rfl, hB, f1, f2, hA, s1, hz, l0, l2, hp⟩ := hP
  have c1 : Steps p.tables e below (s₁.setTop (entryFrame m #[.ref a, .ref b] 2)) (s₁.setTop (mkF m 0 #[.val (.ref a), .val (.ref b)] [])) := entry rfl
  have c2 : Steps p.tables e below (s₁.setTop (entryFrame m #[.ref a, .ref b] 2)) (s₁.setTop (mkF m 6 #[.val (.ref a), .val (.ref b)] [.null, .int (Int32.ofNat A.slots.size), .int 0, .ref b, .ref a])) := c1.trans (by
    refine XS.aloadN X0.here hexec rfl (hb hbytes d0) rfl rfl ?_
    refine XS.aloadN X0.here hexec rfl (hb hbytes d1) rfl rfl ?_
    refine iconstV X0.here hexec rfl 0 (hb hbytes d2) (by decide) ?_
    refine XS.aloadN X0.here hexec rfl (hb hbytes d3) rfl rfl ?_
    refine X0.alen hexec (hA.1.mv X0.warmed.alike hh0) rfl rfl (hb hbytes d4) ?_
    refine XS.aconstNull X0.here hexec rfl (hb hbytes d5) ?_
    exact Steps.refl _)
  obtain ⟨v3, T3, X3, E3, g3⟩ := X0.callN hexec (New4.law l a D fV fC b A z 0 A.slots.size) rfl hown (wks W (initW "java/lang/String" 27 New4.yN)) (W New4.tab (by simp only [site, List.mem_cons, List.mem_append, true_or, or_true])) (W := 0) (Nat.le_of_ble_eq_true rfl) (Nat.le_of_ble_eq_true rfl) (Nat.le_refl _) (by show 0 + A.slots.size ≤ A.slots.size; omega) (g := (mkF m 6 #[.val (.ref a), .val (.ref b)] [.null, .int (Int32.ofNat A.slots.size), .int (Int32.ofNat 0), .ref b, .ref a])) rfl (by rw [hml]; rfl) c2 (argsL := [.ref b, .int (Int32.ofNat 0), .int (Int32.ofNat A.slots.size), .null]) (rest := []) rfl rfl (by show 2 * 0 + 0 ≤ _; decide) (hb hbytes d6) (⟨rfl, hB.mv X0.warmed.alike hh0, f1.al X0.warmed.alike, f2.al X0.warmed.alike, hA.mv X0.warmed.alike hh0, s1.there X0.warmed.alike hh0, hz, l0, by omega, l2, fun i hi => by rw [Nat.zero_add]; exact hp i hi⟩)
  have e0 := Got.mv _ s₁ s _ _ hh0.symm (Vm.Alike.refl _) rfl E3
  obtain rfl := e0.1
  have c4 : Steps p.tables e below (s₁.setTop (entryFrame m #[.ref a, .ref b] 2)) (T3.setTop (mkF m 9 #[.val (.ref a), .val (.ref b)] [])) := g3
  exact ⟨T3, none, _, _, _, X3, by simp, rfl, by omega, (fun _ => rfl), e0, fun fs hl => c4.trans (X3.returnOut hexec hret (hb hbytes d9) hl)⟩
theorem pays {l : Launch} {R : Room} {p : Program} {e : Env} {below : List Frame} {s : State} {sargs : Array Value} {len W : Nat} (a : Addr) (D : Cell) (fV fC : Field) (b : Addr) (A : Cell) (z : Int32) (htab : tab.before sargs s = true) (hfr : 4 ≤ R.frames) (hlo : W + 65 ≤ R.locals) :
    Back l R p e below s sargs yN len W (fun A₁ a₁ => A₁.cells + 1 ≤ R.cells ∧ A₁.slots + A.slots.size ≤ R.slots ∧ P a D fV fC b A z a₁ A₁.U) (fun A₁ _ v₁ B₁ => E a D fV fC A v₁ A₁.U B₁.U ∧ B₁.locs = A₁.locs ++ [⟨a, fC.slot⟩, ⟨a, fV.slot⟩] ∧ B₁.cells = A₁.cells + 1 ∧ B₁.slots = A₁.slots + A.slots.size) :=
  (law l a D fV fC b A z).pays htab hfr (by omega)
end New1
/-- the byte, read back as charAt reads it, is the char -/
theorem lo8_mask {x : Int32} (h0 : ¬ x < 0) (h1 : ¬ 255 < x) : lo8 x &&& 255 = x := by
  have t : ∀ k : Fin 256, lo8 (Int32.ofNat k.val) &&& 255 = Int32.ofNat k.val := by decide +kernel
  rw [Int32.lt_iff_toInt_lt] at h0 h1
  have e0 : (0 : Int32).toInt = 0 := rfl
  have e1 : (255 : Int32).toInt = 255 := rfl
  obtain ⟨k, hk⟩ : ∃ k : Nat, x.toInt = k := ⟨x.toInt.toNat, by omega⟩
  have hx : x = Int32.ofNat k := Int32.toInt_inj.mp (by rw [hk, Int32.toInt_ofNat_small (by omega)])
  rw [hx]
  exact t ⟨k, by omega⟩
end StrChars
namespace StrChars.Road
open Jvm Sem ClassFile Op Lib Jvm.Stand Jvm.Free Jvm.Free.XT
open Jvm.Lib.Cold (StaticIs)
abbrev ST : String := "java/lang/String"
/-- every table word that New1's law asks, flat -/
abbrev words : List Jvm.Cond := [.code New1.yN New1.yB 2 none, .initialized ST, .methodLink ST 27 New4.yN, .instanceMethod New4.yN,
  .code New4.yN New4.yB 6 none, .fieldLink ST 38 ST "COMPACT_STRINGS" "Z", .laysFinal ST ST "value" "[B", .fieldLink ST 9 ST "value" "[B", .laysFinal ST ST "coder" "B", .fieldLink ST 15 ST "coder" "B",
  .methodLink ST 1 Lib.objectInit, .instanceMethod Lib.objectInit, .code Lib.objectInit ⟨#[0xb1]⟩ 1 none, .methodLink ST 177 Cmp3.yN, .static Cmp3.yN, .methodLink ST 47 CodL.yN, .static CodL.yN,
  .code Cmp3.yN Cmp3.yB 6 (some (.array .byte)), .initialized U16, .arrayClass .byte, .methodLink U16 115 Cmp5.yN, .static Cmp5.yN, .code Cmp5.yN Cmp5.yB 7 (some .int), .code CodL.yN CodL.yB 2 (some .byte)]
theorem tab_of {a : Array Value} {s : State} (h : ∀ w ∈ words, w.before a s = true) : New1.tab.before a s = true := by
  have h5 : Cmp5.tab.before a s = true := unparts (wk h (.code Cmp5.yN Cmp5.yB 7 (some .int))) (wks h (.initialized Cmp5.yN.cls :: Cmp5.site))
  have hc : CodL.tab.before a s = true := unparts (wk h (.code CodL.yN CodL.yB 2 (some .byte))) (wks h (.initialized CodL.yN.cls :: CodL.site))
  have q5 : ∀ w ∈ Cmp5.tab :: words, w.before a s = true := fun w hw => (List.mem_cons.mp hw).elim (fun e => e ▸ h5) (h w)
  have h3 : Cmp3.tab.before a s = true := unparts (wk q5 (.code Cmp3.yN Cmp3.yB 6 (some (.array .byte)))) (wks q5 (.initialized Cmp3.yN.cls :: Cmp3.site))
  have q3 : ∀ w ∈ Cmp3.tab :: CodL.tab :: words, w.before a s = true := fun w hw => (List.mem_cons.mp hw).elim (fun e => e ▸ h3) fun hw => (List.mem_cons.mp hw).elim (fun e => e ▸ hc) (h w)
  have h4 : New4.tab.before a s = true := unparts (wk q3 (.code New4.yN New4.yB 6 none)) (wks q3 (.initialized New4.yN.cls :: New4.site))
  have q4 : ∀ w ∈ New4.tab :: words, w.before a s = true := fun w hw => (List.mem_cons.mp hw).elim (fun e => e ▸ h4) (h w)
  exact unparts (wk q4 (.code New1.yN New1.yB 2 none)) (wks q4 (.initialized New1.yN.cls :: New1.site))
/-- the words ride from the start Z to the walk's own state -/
theorem moved {Z s : State} {a0 args : Array Value} (hZ : Z.Warmed39 s.vm) (hw : ∀ d ∈ words, d.before a0 Z = true) : ∀ d ∈ words, d.before args s = true := fun d hd => by
  have q := hw d hd
  have t : ∀ d ∈ words, d = .arrayClass .byte ∨ (d.onTables && d.keepsFace) = true := by decide +kernel
  rcases t d hd with rfl | t
  · exact RoadKit.mvA hZ q
  · exact RoadKit.mv hZ q t
/-- WHAT COMES BACK, over the tables of the start Z: h the heap at the call, h' behind it -/
def Q (Z : State) (x : Addr) (A : Cell) (h : Heap) (v : Option Value) (h' : Heap) (L : List Loc) : Prop := v = none ∧ (∀ y ∈ L, y.base = x) ∧ RoadKit.Keep h h' [x] ∧ h'.size = h.size + 1 ∧ RoadKit.Exa Z h' x ST ∧ RoadKit.Fld Z h' x ST "value" "[B" (.ref h.size) ∧ RoadKit.Fld Z h' x ST "coder" "B" (.int 0) ∧
  (∃ V : Cell, RoadKit.Arr Z h' h.size V .byte ∧ V.vm = .none ∧ Z.vm.findClass "[B" = some V.cls ∧ V.slots.size = A.slots.size ∧ ∀ j, j < A.slots.size → V.slots[j]? = some (.int (lo8 (cv A j)))) ∧
  ∀ (O n d : String) (w : Value), RoadKit.Fld Z h x O n d w → RoadKit.slotOf Z O n d ≠ RoadKit.slotOf Z ST "value" "[B" → RoadKit.slotOf Z O n d ≠ RoadKit.slotOf Z ST "coder" "B" → RoadKit.Fld Z h' x O n d w
/-- **new String(chars) AT A CALL, IN THE ROAD'S FORM**: for specialBack behind newO: x the fresh String, b the char[] with the cell A -/
theorem back {p : Program} {l : Launch} {e : Env} {R : Room} {s : State} {args : Array Value} {below : List Frame} {len W : Nat} {Z : State} {a0 : Array Value} {h : Heap} (hZ : Z.Warmed39 s.vm) (hw : ∀ d ∈ words, d.before a0 Z = true) {kI : Nat} (wi : (Jvm.Cond.instantiable ST kI).before a0 Z = true)
    {x b : Addr} {A : Cell} {z : Int32} {v0 c0 : Value} (E : RoadKit.Exa Z h x ST) (V : RoadKit.Fld Z h x ST "value" "[B" v0) (C : RoadKit.Fld Z h x ST "coder" "B" c0) (K : RoadKit.Arr Z h b A .char) (hty : Typed .char A) (S : RoadKit.Sta Z h ST "COMPACT_STRINGS" "Z" (.int z)) (hz : ¬ z = 0)
    (l0 : 0 < A.slots.size) (l2 : A.slots.size ≤ 536870912) (hp : ∀ i, i < A.slots.size → ¬ 255 < cv A i) (hfr : 4 ≤ R.frames) (hlo : W + 65 ≤ R.locals) :
    Back l R p e below s args New1.yN len W (fun P a => a = #[.ref x, .ref b] ∧ P.U.heap = h ∧ P.cells + 1 ≤ R.cells ∧ P.slots + A.slots.size ≤ R.slots)
      (fun P _ v B => ∃ L, Q Z x A h v B.U.heap L ∧ B.locs = P.locs ++ L ∧ B.cells = P.cells + 1 ∧ B.slots = P.slots + A.slots.size) := by
  intro m meth c P g ig mk a X hg hsize hdg hW hn hp'
  obtain ⟨rfl, rfl, r1, r2⟩ := hp'
  have al : Z.vm.Alike P.U.vm := hZ.alike.trans X.warmed.alike
  obtain ⟨D, cfV, kV, iV, fV, hD, gV, stV, knV, obV, asV, slV⟩ := id V
  obtain ⟨D', cfC, kC, iC, fC, hD', gC, stC, -, -, asC, slC⟩ := id C
  cases hD.symm.trans hD'
  obtain ⟨D2, kD, e1, e2, e3, e4, e5⟩ := id E
  cases hD.symm.trans e1
  obtain ⟨c2, k2, i1, i2, i3, -⟩ := Cond.instantiable_spec wi
  cases e2.symm.trans i1
  cases e3.symm.trans i2
  obtain ⟨kU, u1, u2⟩ := al.2.2 _ _ e3
  have hB : Blank ST x D P.U := ⟨hD, ⟨knV, fun q hq => by rw [hq] at obV; cases obV⟩, by rw [al.findClass]; exact e2, kU, u1, by rw [u2]; exact i3, by rw [u2]; exact e5 i3⟩
  have F1 : Found ST "value" "[B" fV P.U := ⟨SBG.found_only al ⟨cfV, kV, iV, gV⟩, stV⟩
  have F2 : Found ST "coder" "B" fC P.U := ⟨SBG.found_only al ⟨cfC, kC, iC, gC⟩, stC⟩
  have hA : Ch b A P.U := ⟨⟨K.1, State.isArrayOf_alike al K.2.1, K.2.2, by omega⟩, hty⟩
  have hS : StaticIs P.U ST "COMPACT_STRINGS" "Z" (.int z) := by
    obtain ⟨cfS, iS, kS, fS, st, cS, t1, t2, t3, t4, t5, t6, t7⟩ := S
    exact StaticIs.there (s := { Z with heap := P.U.heap }) ⟨cfS, iS, kS, fS, st, cS, t1, t2, t3, t4, t5, (fun q => by rw [q] at t6; cases t6), t7⟩ al rfl
  obtain ⟨v, B, X', ⟨⟨hv, E', V', q1, q2, q3, q4, q5, q6, q7, q8, q9, q10, q11⟩, hl, hc, hs⟩, st⟩ := New1.pays x D fV fC b A z (tab_of (moved hZ hw)) hfr hlo m meth c P g ig mk _ X hg hsize hdg hW hn ⟨r1, r2, rfl, hB, F1, F2, hA, hS, hz, l0, l2, hp⟩
  have al' : Z.vm.Alike B.U.vm := hZ.alike.trans X'.warmed.alike
  have hsz : E'.slots.size = D.slots.size := by
    obtain ⟨-, -, -, kB, w1, w2, w3⟩ := q1
    obtain ⟨kB', y1, y2⟩ := al'.2.2 _ _ e3
    rw [q2.2.1] at w1
    cases w1.symm.trans y1
    rw [w3, e5 i3, y2]
  refine ⟨v, B, X', ⟨_, ⟨hv, ?_, ⟨by omega, fun y cy hy hn' => q10 y cy (by simpa using hn') hy, fun y cy hy => ?_⟩, q11, ⟨E', _, q1.1, by rw [q2.2.1]; exact e2, by rw [q2.2.1]; exact e3, by rw [q2.1]; exact obV, fun _ => by rw [hsz]; exact e5 i3⟩,
    ⟨E', cfV, kV, iV, fV, q1.1, gV, stV, by rw [q2.1]; exact knV, by rw [q2.1]; exact obV, by rw [q2.2.1]; exact asV, q3⟩, ⟨E', cfC, kC, iC, fC, q1.1, gC, stC, by rw [q2.1]; exact knV, by rw [q2.1]; exact obV, by rw [q2.2.1]; exact asC, q4⟩,
    ⟨V', ⟨q5.1, State.isArrayOf_alike al'.symm q5.2.1, q5.2.2.1⟩, q6, by rw [← al'.findClass]; exact q7, q8, fun j hj => by have := q9 j hj; rwa [Nat.zero_add] at this⟩, fun O n d w F n1 n2 => ?_⟩, hl, hc, hs⟩, st⟩
  · intro y hy
    simp only [List.mem_cons, List.not_mem_nil, or_false] at hy
    rcases hy with rfl | rfl <;> rfl
  · by_cases q : y = x
    · subst q
      cases hD.symm.trans hy
      exact ⟨E', q1.1, q2.2.1, q2.1, hsz⟩
    · exact ⟨cy, q10 y cy q hy, rfl, rfl, rfl⟩
  · obtain ⟨D3, cf, k, i, f, g1, g2, g3, g4, g5, g6, g7⟩ := F
    cases hD.symm.trans g1
    simp only [RoadKit.slotOf, g2, gV, gC, Option.map_some, Option.getD_some] at n1 n2
    exact ⟨E', cf, k, i, f, q1.1, g2, g3, by rw [q2.1]; exact g4, by rw [q2.1]; exact g5, by rw [q2.2.1]; exact g6, by rw [q2.2.2 f.slot (by simp [n1, n2])]; exact g7⟩
end StrChars.Road
namespace StrChars.Road
open Jvm Sem ClassFile Op Lib Jvm.Stand Jvm.Free Jvm.Free.XT
/-- WHAT COMES BACK, the byte[] as a list of values -/
def QA (Z : State) (x : Addr) (zn : Int32) (cs : List Int32) (h : Heap) (v : Option Value) (h' : Heap) (L : List Loc) : Prop := v = none ∧ (∀ y ∈ L, y.base = x) ∧ RoadKit.Keep h h' [x] ∧ h'.size = h.size + 1 ∧ RoadKit.Exa Z h' x ST ∧ RoadKit.Fld Z h' x ST "value" "[B" (.ref h.size) ∧ RoadKit.Fld Z h' x ST "coder" "B" (.int 0) ∧
  (∃ kb, Z.vm.findClass "[B" = some kb ∧ RoadKit.Arv Z h' h.size kb .byte zn (cs.map fun c => .int (lo8 c)) (.int 0)) ∧
  ∀ (O n d : String) (w : Value), RoadKit.Fld Z h x O n d w → RoadKit.slotOf Z O n d ≠ RoadKit.slotOf Z ST "value" "[B" → RoadKit.slotOf Z O n d ≠ RoadKit.slotOf Z ST "coder" "B" → RoadKit.Fld Z h' x O n d w
/-- **new String(chars) AT A CALL, THE ARRAYS AS LISTS**: the char[] at b holds cs, not empty, no char above 255 -/
theorem backArv {p : Program} {l : Launch} {e : Env} {R : Room} {s : State} {args : Array Value} {below : List Frame} {len W : Nat} {Z : State} {a0 : Array Value} {h : Heap} (hZ : Z.Warmed39 s.vm) (hw : ∀ d ∈ words, d.before a0 Z = true) {kI : Nat} (wi : (Jvm.Cond.instantiable ST kI).before a0 Z = true)
    {x b : Addr} {k : ClassId} {zn z : Int32} {cs : List Int32} {dv v0 c0 : Value} (E : RoadKit.Exa Z h x ST) (V : RoadKit.Fld Z h x ST "value" "[B" v0) (C : RoadKit.Fld Z h x ST "coder" "B" c0) (K : RoadKit.Arv Z h b k .char zn (cs.map Value.int) dv) (S : RoadKit.Sta Z h ST "COMPACT_STRINGS" "Z" (.int z)) (hz : ¬ z = 0)
    (hlen : zn.toNatClampNeg = cs.length) (h0 : 0 < cs.length) (hbig : cs.length ≤ 536870912) (hall : ∀ c ∈ cs, ¬ 255 < c) (hfr : 4 ≤ R.frames) (hlo : W + 65 ≤ R.locals) :
    Back l R p e below s args New1.yN len W (fun P a => a = #[.ref x, .ref b] ∧ P.U.heap = h ∧ P.cells + 1 ≤ R.cells ∧ P.slots + cs.length ≤ R.slots)
      (fun P _ v B => ∃ L, QA Z x zn cs h v B.U.heap L ∧ B.locs = P.locs ++ L ∧ B.cells = P.cells + 1 ∧ B.slots = P.slots + cs.length) := by
  obtain ⟨A, K1, K2, K3, K4, K5, K6⟩ := K
  have e : A.slots.size = cs.length := K3.trans hlen
  have hat : ∀ (i : Nat) (hi : i < cs.length), A.slots[i]? = some (.int cs[i]) := fun i hi => by rw [K5 i (by omega)]; simp [List.getD_eq_getElem?_getD, hi]
  have hcv : ∀ (i : Nat) (hi : i < cs.length), cv A i = cs[i] := fun i hi => by unfold cv; rw [hat i hi]
  have hty : Typed .char A := fun i v hv => by
    have hi : i < A.slots.size := (Array.getElem?_eq_some_iff.mp hv).1
    have q := K5 i hi
    rw [hv] at q
    rw [Option.some.inj q]
    exact K6 i hi
  refine Back.mono (back hZ hw wi E V C K1 hty S hz (by omega) (by omega) (fun i hi => by rw [hcv i (by omega)]; exact hall _ (List.getElem_mem _)) hfr hlo) (fun P a hp => ⟨hp.1, hp.2.1, hp.2.2.1, by rw [e]; exact hp.2.2.2⟩) (fun P a v B hp hq => ?_)
  obtain ⟨L, ⟨q1, q2, q3, q4, q5, q6, q7, ⟨V', v1, v2, v3, v4, v5⟩, q9⟩, hl, hc, hs⟩ := hq
  refine ⟨L, ⟨q1, q2, q3, q4, q5, q6, q7, ⟨V'.cls, v3, V', v1, rfl, by rw [v4, e, hlen], K4, fun i hi => ?_, fun i hi => ?_⟩, q9⟩, hl, hc, by rw [hs, e]⟩
  · have hi' : i < cs.length := by omega
    rw [v5 i (by omega), hcv i hi']; simp [List.getD_eq_getElem?_getD, hi']
  · have hi' : i < cs.length := by omega
    simp only [List.getD_eq_getElem?_getD, List.getElem?_map, List.getElem?_eq_getElem hi', Option.map_some, Option.getD_some]
    exact fits_lo8 _
end StrChars.Road
namespace StrChars.Road
open Jvm Sem ClassFile Op Lib Jvm.Stand Jvm.Free Jvm.Free.XT
/-- WHAT COMES BACK, in the writer's own shape -/
def QV (Z : State) (x : Addr) (N : Int32) (bs : List Int32) (h : Heap) (n0 : Nat) (v : Option Value) (h' : Heap) (L : List Loc) : Prop := v = none ∧ RoadKit.Fr n0 L ∧ RoadKit.Keep h h' [x] ∧ RoadKit.Exa Z h' x ST ∧ RoadKit.Fld Z h' x ST "coder" "B" (.int 0) ∧
  ∃ (t : Addr) (kb : ClassId), n0 ≤ t ∧ h.size ≤ t ∧ ¬ t = x ∧ RoadKit.Fld Z h' x ST "value" "[B" (.ref t) ∧ RoadKit.Arv Z h' t kb .byte N (bs.map Value.int) (.int 0)
/-- **new String(chars) AT A CALL, FOR THE WRITER**: a char[] of n known ints, each 0 to 255 -/
theorem backV {p : Program} {l : Launch} {e : Env} {R : Room} {s : State} {args : Array Value} {below : List Frame} {len W : Nat} {Z : State} {a0 : Array Value} {h : Heap} (hZ : Z.Warmed39 s.vm) (hw : ∀ d ∈ words, d.before a0 Z = true) {kI : Nat} (wi : (Jvm.Cond.instantiable ST kI).before a0 Z = true)
    {x b : Addr} {kC : ClassId} {cs bs : List Int32} {d v0 c0 : Value} {z N : Int32} {n n0 : Nat} (hx0 : n0 ≤ x) (hh0 : n0 ≤ h.size) (E : RoadKit.Exa Z h x ST) (V : RoadKit.Fld Z h x ST "value" "[B" v0) (C : RoadKit.Fld Z h x ST "coder" "B" c0) (K : RoadKit.Arv Z h b kC .char N (cs.map Value.int) d) (S : RoadKit.Sta Z h ST "COMPACT_STRINGS" "Z" (.int z)) (hz : ¬ z = 0)
    (hn : cs.length = n) (hN : N = Int32.ofNat n) (l0 : 0 < n) (l2 : n ≤ 4000) (hp : ∀ c ∈ cs, ¬ c < 0 ∧ ¬ (255 : Int32) < c) (hb : bs = cs.map (fun c => c.toInt8.toInt32)) (hfr : 4 ≤ R.frames) (hlo : W + 65 ≤ R.locals) :
    Back l R p e below s args (⟨"java/lang/String", "<init>", "([C)V"⟩ : MethodName) len W (fun P a => a = #[.ref x, .ref b] ∧ P.U.heap = h ∧ P.cells + 1 ≤ R.cells ∧ P.slots + n ≤ R.slots)
      (fun P _ v B => ∃ L, QV Z x N bs h n0 v B.U.heap L ∧ B.locs = P.locs ++ L ∧ B.cells = P.cells + 1 ∧ B.slots = P.slots + n) := by
  subst hn hN hb
  refine Back.mono (backArv hZ hw wi E V C K S hz (n32 (by omega)) l0 (by omega) (fun c hc => (hp c hc).2) hfr hlo) (fun P a hp => hp) (fun P a v B hp hq => ?_)
  obtain ⟨L, ⟨q1, q2, q3, q4, q5, q6, q7, ⟨kb, v1, v2⟩, q9⟩, hl, hc, hs⟩ := hq
  exact ⟨L, ⟨q1, fun y hy => by rw [q2 y hy]; exact hx0, q3, q5, q7, h.size, kb, hh0, Nat.le_refl _, Nat.ne_of_gt E.lt, q6, by rw [List.map_map]; exact v2⟩, hl, hc, hs⟩
end StrChars.Road
namespace StrChars
open Jvm Sem ClassFile Op Lib Jvm.Stand Jvm.Free.XT Jvm.Free.ALB Jvm.Free.JM Jvm.Free
open Jvm.Lib.Cold (StaticIs)
def hi8 (x : Int32) : Int32 := lo8 (x >>> ((8 : Int32) &&& 31))
/-- what StringUTF16.getChar makes of two bytes -/
def pairCh (u v : Int32) : Int32 := (((u &&& 255) <<< ((0 : Int32) &&& 31)) ||| ((v &&& 255) <<< ((8 : Int32) &&& 31))).toUInt32.toUInt16.toUInt32.toInt32
theorem shr0 (c : Int32) : c >>> ((0 : Int32) &&& 31) = c := by
  have e : ((0 : Int32) &&& 31) = 0 := by decide
  rw [e]
  apply Int32.toBitVec_inj.mp
  rw [Int32.toBitVec_shiftRight]
  have e1 : ((0 : Int32).toBitVec.smod 32) = 0#32 := by decide
  rw [e1, BitVec.sshiftRight_eq']
  exact BitVec.sshiftRight_zero
theorem lo8_and (x : Int32) : (lo8 x &&& 255).toBitVec.toNat = x.toBitVec.toNat % 256 := by
  have h : (lo8 x).toBitVec = (x.toBitVec.signExtend 8).signExtend 32 := by rw [lo8, Int8.toBitVec_toInt32, Int32.toBitVec_toInt8]
  rw [Int32.toBitVec_and, BitVec.toNat_and, h]
  have e : ((x.toBitVec.signExtend 8).signExtend 32).toNat % 256 = x.toBitVec.toNat % 256 := by
    rw [BitVec.toNat_signExtend]
    have hlt := x.toBitVec.isLt
    simp only [BitVec.toNat_setWidth, BitVec.toNat_signExtend]
    split <;> split <;> omega
  rw [← e]
  exact Nat.and_two_pow_sub_one_eq_mod _ 8
theorem pair_says {c : Int32} (h0 : ¬ c < 0) (h1 : ¬ 65535 < c) : pairCh (lo8 c) (hi8 c) = c := by
  rw [Int32.lt_iff_toInt_lt] at h0 h1
  have e0 : (0 : Int32).toInt = 0 := rfl
  have e1 : (65535 : Int32).toInt = 65535 := rfl
  have hc : c.toInt = c.toBitVec.toNat := by
    have := c.toBitVec.isLt
    have e : c.toInt = c.toBitVec.toInt := rfl
    rw [e] at h0 h1
    rw [e]
    rw [BitVec.toInt_eq_toNat_cond] at h0 h1 ⊢
    split at h0 <;> split <;> omega
  have hn : c.toBitVec.toNat < 65536 := by omega
  have a1 := lo8_and c
  have a2 : (hi8 c &&& 255).toBitVec.toNat = c.toBitVec.toNat / 256 := by
    rw [hi8, lo8_and]
    have e : ((8 : Int32) &&& 31) = 8 := by decide
    rw [e, Int32.toBitVec_shiftRight]
    have e2 : ((8 : Int32).toBitVec.smod 32) = 8#32 := by decide
    rw [e2, BitVec.sshiftRight_eq', BitVec.toNat_sshiftRight_of_msb_false (by rw [BitVec.msb_eq_false_iff_two_mul_lt]; omega)]
    show c.toBitVec.toNat >>> 8 % 256 = _
    rw [Nat.shiftRight_eq_div_pow]
    omega
  unfold pairCh
  apply Int32.toBitVec_inj.mp
  apply BitVec.eq_of_toNat_eq
  have f0 : ((0 : Int32) &&& 31) = 0 := by decide
  have f8 : ((8 : Int32) &&& 31) = 8 := by decide
  rw [f0, f8]
  have g : (((lo8 c &&& 255) <<< (0 : Int32)) ||| ((hi8 c &&& 255) <<< (8 : Int32))).toBitVec.toNat = c.toBitVec.toNat := by
    rw [Int32.toBitVec_or, Int32.toBitVec_shiftLeft, Int32.toBitVec_shiftLeft]
    have s0 : ((0 : Int32).toBitVec.smod 32) = 0#32 := by decide
    have s8 : ((8 : Int32).toBitVec.smod 32) = 8#32 := by decide
    rw [s0, s8, BitVec.toNat_or]
    simp only [BitVec.shiftLeft_eq', BitVec.toNat_shiftLeft, a1, a2]
    show (c.toBitVec.toNat % 256) <<< 0 % 2 ^ 32 ||| (c.toBitVec.toNat / 256) <<< 8 % 2 ^ 32 = _
    rw [Nat.shiftLeft_zero, Nat.mod_eq_of_lt (show c.toBitVec.toNat % 256 < 2 ^ 32 by omega), Nat.mod_eq_of_lt (show (c.toBitVec.toNat / 256) <<< 8 < 2 ^ 32 by rw [Nat.shiftLeft_eq]; omega), Nat.or_comm, ← Nat.shiftLeft_add_eq_or_of_lt (by omega), Nat.shiftLeft_eq]
    omega
  show BitVec.toNat (((((lo8 c &&& 255) <<< (0 : Int32)) ||| ((hi8 c &&& 255) <<< (8 : Int32))).toBitVec.setWidth 16).setWidth 32) = _
  rw [BitVec.toNat_setWidth, BitVec.toNat_setWidth, g]
  omega
end StrChars
namespace StrChars
open Jvm Sem ClassFile Op Lib Jvm.Stand Jvm.Free.XT Jvm.Free.ALB Jvm.Free.JM Jvm.Free
open Jvm.Lib.Cold (StaticIs)
theorem shr1 {n : Nat} (h : 2 * n < 2 ^ 31) : Int32.ofNat (2 * n) >>> ((1 : Int32) &&& 31) = Int32.ofNat n := by
  have e : ((1 : Int32) &&& 31) = 1 := by decide
  rw [e]
  apply Int32.toBitVec_inj.mp
  rw [Int32.toBitVec_shiftRight]
  have e1 : ((1 : Int32).toBitVec.smod 32) = 1#32 := by decide
  have hm : (BitVec.ofNat 32 (2 * n)).toNat = 2 * n := by rw [BitVec.toNat_ofNat, Nat.mod_eq_of_lt (by omega)]
  rw [e1, BitVec.sshiftRight_eq']
  apply BitVec.eq_of_toNat_eq
  show ((BitVec.ofNat 32 (2 * n)).sshiftRight 1).toNat = (BitVec.ofNat 32 n).toNat
  rw [BitVec.toNat_sshiftRight_of_msb_false (by rw [BitVec.msb_eq_false_iff_two_mul_lt, hm]; omega), hm, BitVec.toNat_ofNat, Nat.shiftRight_eq_div_pow]
  omega
theorem narrow_ch {c : Int32} (h0 : ¬ c < 0) (h1 : ¬ 65535 < c) : narrow .char (.int c) = .int c := by
  have q : narrow .char (.int (pairCh (lo8 c) (hi8 c))) = .int (pairCh (lo8 c) (hi8 c)) := narrow_c _
  rwa [pair_says h0 h1] at q
/-- the array's cell V codes the n chars f 0 .. f (n - 1) by the coder cd, as the JDK does: coder 1 just where some char is above 255 -/
def Cod (cd : Int32) (n : Nat) (f : Nat → Int32) (V : Cell) : Prop := (cd = 0 ∧ V.slots.size = n ∧ ∀ j, j < n → V.slots[j]? = some (.int (lo8 (f j))) ∧ ¬ 255 < f j) ∨ (cd = 1 ∧ V.slots.size = 2 * n ∧ (∀ j, j < n → V.slots[2 * j]? = some (.int (lo8 (f j))) ∧ V.slots[2 * j + 1]? = some (.int (hi8 (f j)))) ∧ ∃ j, j < n ∧ 255 < f j)
theorem Cod.cd {cd : Int32} {n : Nat} {f : Nat → Int32} {V : Cell} (h : Cod cd n f V) : cd = 0 ∨ cd = 1 := h.imp (fun q => q.1) fun q => q.1
theorem Cod.len {cd : Int32} {n : Nat} {f : Nat → Int32} {V : Cell} (h : Cod cd n f V) (hs : V.slots.size < 2 ^ 31) : Int32.ofNat V.slots.size >>> (cd &&& 31) = Int32.ofNat n := by
  rcases h with ⟨rfl, h, -⟩ | ⟨rfl, h, -⟩
  · rw [shr0, h]
  · rw [h, shr1 (by omega)]
/-- **x is a String of the n chars f 0 .. f (n - 1)**, Latin-1 or UTF-16; its array at t has the cell V -/
def Txt (x t : Addr) (V : Cell) (cd : Int32) (n : Nat) (f : Nat → Int32) (U : State) : Prop := Exact "java/lang/String" x U ∧ Has x "java/lang/String" "value" "[B" (.ref t) U ∧ Has x "java/lang/String" "coder" "B" (.int cd) U ∧ XT.Arr .byte t V U ∧ Cod cd n f V ∧ ∀ j, j < n → ¬ f j < 0 ∧ ¬ 65535 < f j
theorem Txt.mv {x t : Addr} {V : Cell} {cd : Int32} {n : Nat} {f : Nat → Int32} {U U' : State} (h : Txt x t V cd n f U) (hal : U.vm.Alike U'.vm) (hh : U'.heap = U.heap) : Txt x t V cd n f U' := ⟨h.1.mv hal hh, h.2.1.mv hal hh, h.2.2.1.mv hal hh, h.2.2.2.1.mv hal hh, h.2.2.2.2⟩
namespace Cdr
def yN : MethodName := ⟨"java/lang/String", "coder", "()B"⟩
abbrev yB : ByteArray := jdk_42_method_152_code
theorem d0 : decode yB 0 = .ok (.getstatic 38, 3) := by decide +kernel
theorem d3 : decode yB 3 = .ok (.ifCond (.eq) 10, 3) := by decide +kernel
theorem d6 : decode yB 6 = .ok (.aload_n 0, 1) := by decide +kernel
theorem d7 : decode yB 7 = .ok (.getfield 15, 3) := by decide +kernel
theorem d10 : decode yB 10 = .ok (.goto 4, 3) := by decide +kernel
theorem d14 : decode yB 14 = .ok (.ireturn, 1) := by decide +kernel
def site : List Cond := [.fieldLink "java/lang/String" 38 "java/lang/String" "COMPACT_STRINGS" "Z", .fieldLink "java/lang/String" 15 "java/lang/String" "coder" "B"]
def tab : Cond := tabOf yN yB 1 (some .byte) site
def P (x : Addr) (cd z : Int32) (args : Array Value) (s : State) : Prop := args = #[.ref x] ∧ Has x "java/lang/String" "coder" "B" (.int cd) s ∧ (cd = 0 ∨ cd = 1) ∧ StaticIs s "java/lang/String" "COMPACT_STRINGS" "Z" (.int z) ∧ ¬ z = 0
def E (cd : Int32) (r : Option Value) (s u : State) : Prop := XT.PureE (some (.int cd)) r s u
theorem law (l : Launch) (x : Addr) (cd z : Int32) : Law l yN 1 0 0 0 yB 1 (some .byte) site (P x cd z) (E cd) [] 0 0 := by
  refine Law.of_walk (plainFor_of_name (by decide +kernel)) (by decide +kernel) (by decide +kernel) (by decide) (fun _ _ h => by rw [h.1]; rfl) (fun _ U U' hal hh h => ⟨h.1, h.2.1.mv hal hh, h.2.2.1, h.2.2.2.1.there hal hh, h.2.2.2.2⟩) (fun r U U' V V' h1 hal h2 h => XT.PureE.mv r U U' V V' h1 hal h2 h) ?_
  intro p e s m args below meth c s₁ X0 hexec hbytes hml hret hlk hnm hown hh0 W hP
  obtain ⟨rfl, hx, hc, s1, hz⟩ := hP
  have c1 : Steps p.tables e below (s₁.setTop (entryFrame m #[.ref x] 1)) (s₁.setTop (mkF m 0 #[.val (.ref x)] [])) := entry rfl
  obtain ⟨T2, X2, q2, st2⟩ := X0.sget hexec hown (wk W (.fieldLink "java/lang/String" 38 "java/lang/String" "COMPACT_STRINGS" "Z")) s1 (fun _ _ h => by rw [hh0]; exact h) (g := (mkF m 0 #[.val (.ref x)] [])) rfl (hb hbytes d0)
  have hh2 := q2.trans hh0
  have c3 : Steps p.tables e below (s₁.setTop (entryFrame m #[.ref x] 1)) (T2.setTop (mkF m 7 #[.val (.ref x)] [.ref x])) := (c1.trans (st2 _ (Steps.refl _))).trans (by
    refine XS.ifNo X2.here hexec rfl (hb hbytes d3) rfl (i0_eq_f hz) ?_
    refine XS.aloadN X2.here hexec rfl (hb hbytes d6) rfl rfl ?_
    exact Steps.refl _)
  obtain ⟨T4, X4, q4, st4⟩ := X2.hget hexec hown (wk W (.fieldLink "java/lang/String" 15 "java/lang/String" "coder" "B")) (hx.mv X2.warmed.alike hh2) (g := (mkF m 7 #[.val (.ref x)] [.ref x])) rfl (rest := []) rfl (hb hbytes d7)
  have c5 : Steps p.tables e below (s₁.setTop (entryFrame m #[.ref x] 1)) (T4.setTop (mkF m 14 #[.val (.ref x)] [.int cd])) := (c3.trans (st4 _ (Steps.refl _))).trans (by
    refine XS.goto X4.here hexec rfl (pc0 := 10) rfl (hb hbytes d10) (by decide) rfl ?_
    exact Steps.refl _)
  exact ⟨T4, some (.int cd), _, _, _, X4, rfl, rfl, rfl, (fun h => by cases h), ⟨rfl, q4.trans hh2⟩, fun fs hl => c5.trans (X4.ireturnOut hexec hret (by rcases hc with rfl | rfl <;> rfl) (Or.inr (Or.inr (Or.inl rfl))) (hb hbytes d14) hl)⟩
end Cdr
namespace Len
def yN : MethodName := ⟨"java/lang/String", "length", "()I"⟩
abbrev yB : ByteArray := jdk_42_method_54_code
theorem d0 : decode yB 0 = .ok (.aload_n 0, 1) := by decide +kernel
theorem d1 : decode yB 1 = .ok (.getfield 9, 3) := by decide +kernel
theorem d4 : decode yB 4 = .ok (.arraylength, 1) := by decide +kernel
theorem d5 : decode yB 5 = .ok (.aload_n 0, 1) := by decide +kernel
theorem d6 : decode yB 6 = .ok (.invokevirtual 335, 3) := by decide +kernel
theorem d9 : decode yB 9 = .ok (.ishr, 1) := by decide +kernel
theorem d10 : decode yB 10 = .ok (.ireturn, 1) := by decide +kernel
def site : List Cond := [.fieldLink "java/lang/String" 9 "java/lang/String" "value" "[B", Cdr.tab] ++ virtW "java/lang/String" 335 "java/lang/String" Cdr.yN Cdr.yN
def tab : Cond := tabOf yN yB 1 (some .int) site
def P (x t : Addr) (V : Cell) (cd : Int32) (n : Nat) (f : Nat → Int32) (z : Int32) (args : Array Value) (s : State) : Prop := args = #[.ref x] ∧ Txt x t V cd n f s ∧ StaticIs s "java/lang/String" "COMPACT_STRINGS" "Z" (.int z) ∧ ¬ z = 0
def E (n : Nat) (r : Option Value) (s u : State) : Prop := XT.PureE (some (.int (Int32.ofNat n))) r s u
/-- length() of a String of n chars, in either coding -/
theorem law (l : Launch) (x t : Addr) (V : Cell) (cd : Int32) (n : Nat) (f : Nat → Int32) (z : Int32) : Law l yN 1 0 1 13 yB 1 (some .int) site (P x t V cd n f z) (E n) [] 0 0 := by
  refine Law.of_walk (plainFor_of_name (by decide +kernel)) (by decide +kernel) (by decide +kernel) (by decide) (fun _ _ h => by rw [h.1]; rfl) (fun _ U U' hal hh h => ⟨h.1, h.2.1.mv hal hh, h.2.2.1.there hal hh, h.2.2.2⟩) (fun r U U' V V' h1 hal h2 h => XT.PureE.mv r U U' V V' h1 hal h2 h) ?_
  intro p e s m args below meth c s₁ X0 hexec hbytes hml hret hlk hnm hown hh0 W hP
  obtain ⟨rfl, hx, s1, hz⟩ := hP
  have v31 := hx.2.2.2.1.2.2.2
  have c1 : Steps p.tables e below (s₁.setTop (entryFrame m #[.ref x] 1)) (s₁.setTop (mkF m 1 #[.val (.ref x)] [.ref x])) := Steps.trans (entry rfl) (by
    show Steps p.tables e below (s₁.setTop (mkF m 0 #[.val (.ref x)] [])) _
    refine XS.aloadN X0.here hexec rfl (hb hbytes d0) rfl rfl ?_
    exact Steps.refl _)
  obtain ⟨T2, X2, q2, st2⟩ := X0.hget hexec hown (wk W (.fieldLink "java/lang/String" 9 "java/lang/String" "value" "[B")) (hx.mv X0.warmed.alike hh0).2.1 (g := (mkF m 1 #[.val (.ref x)] [.ref x])) rfl (rest := []) rfl (hb hbytes d1)
  have hh2 := q2.trans hh0
  have hx2 := hx.mv X2.warmed.alike hh2
  have c3 : Steps p.tables e below (s₁.setTop (entryFrame m #[.ref x] 1)) (T2.setTop (mkF m 6 #[.val (.ref x)] [.ref x, .int (Int32.ofNat V.slots.size)])) := (c1.trans (st2 _ (Steps.refl _))).trans (by
    refine X2.alen hexec hx2.2.2.2.1 rfl rfl (hb hbytes d4) ?_
    refine XS.aloadN X2.here hexec rfl (hb hbytes d5) rfl rfl ?_
    exact Steps.refl _)
  obtain ⟨v4, T4, X4, E4, g4⟩ := X2.callV hexec (Cdr.law l x cd z) hown (wks W (virtW "java/lang/String" 335 "java/lang/String" Cdr.yN Cdr.yN)) rfl (by decide) (wk W Cdr.tab) (W := 1) (Nat.le_of_ble_eq_true rfl) (Nat.le_of_ble_eq_true rfl) (Nat.le_refl _) (Nat.le_refl _) (hx2.1.fc X2.warmed.alike) hx2.1.is (g := (mkF m 6 #[.val (.ref x)] [.ref x, .int (Int32.ofNat V.slots.size)])) rfl (by rw [hml]; rfl) c3 (argsL := []) (rest := [.int (Int32.ofNat V.slots.size)]) rfl rfl (by show 2 * 0 + (1 + 0) ≤ _; decide) (hb hbytes d6) (⟨rfl, hx2.2.2.1, hx.2.2.2.2.1.cd, s1.there X2.warmed.alike hh2, hz⟩)
  obtain ⟨rfl, q4⟩ := E4
  have c5 : Steps p.tables e below (s₁.setTop (entryFrame m #[.ref x] 1)) (T4.setTop (mkF m 10 #[.val (.ref x)] [.int (Int32.ofNat V.slots.size >>> (cd &&& 31))])) := Steps.trans g4 (by
    refine ishr X4.here hexec rfl (hb hbytes d9) rfl ?_
    exact Steps.refl _)
  rw [hx.2.2.2.2.1.len v31] at c5
  exact ⟨T4, some (.int (Int32.ofNat n)), _, _, _, X4, rfl, rfl, rfl, (fun h => by cases h), ⟨rfl, q4.trans hh2⟩, fun fs hl => c5.trans (X4.ireturnOut hexec hret rfl (Or.inl rfl) (hb hbytes d10) hl)⟩
theorem pays {l : Launch} {R : Room} {p : Program} {e : Env} {below : List Frame} {s : State} {sargs : Array Value} {len W : Nat} (x t : Addr) (V : Cell) (cd : Int32) (n : Nat) (f : Nat → Int32) (z : Int32) (htab : tab.before sargs s = true) (hfr : 2 ≤ R.frames) (hlo : W + 25 ≤ R.locals) :
    Back l R p e below s sargs yN len W (fun A₁ a₁ => A₁.cells + 0 ≤ R.cells ∧ A₁.slots + 0 ≤ R.slots ∧ P x t V cd n f z a₁ A₁.U) (fun A₁ _ v₁ B₁ => E n v₁ A₁.U B₁.U ∧ B₁.locs = A₁.locs ++ [] ∧ B₁.cells = A₁.cells + 0 ∧ B₁.slots = A₁.slots + 0) :=
  (law l x t V cd n f z).pays htab hfr (by omega)
end Len
end StrChars
namespace StrChars.Road
open Jvm Sem ClassFile Op Lib Jvm.Stand Jvm.Free Jvm.Free.XT
open Jvm.Lib.Cold (StaticIs)
theorem consq {a : Array Value} {s : State} {c : Jvm.Cond} {L : List Jvm.Cond} (h0 : c.before a s = true) (h : ∀ w ∈ L, w.before a s = true) : ∀ w ∈ c :: L, w.before a s = true := fun w hw => (List.mem_cons.mp hw).elim (fun e => e ▸ h0) (h w)
/-- the words of String.length(), either coding -/
abbrev wordsLen : List Jvm.Cond := [.code Len.yN Len.yB 1 (some .int), .initialized ST, .fieldLink ST 9 ST "value" "[B", .fieldLink ST 38 ST "COMPACT_STRINGS" "Z", .fieldLink ST 15 ST "coder" "B", .code Cdr.yN Cdr.yB 1 (some .byte), .methodLink ST 335 Cdr.yN, .declares Cdr.yN, .selects ST Cdr.yN Cdr.yN, .instanceMethod Cdr.yN]
theorem tabLen_of {a : Array Value} {s : State} (h : ∀ w ∈ wordsLen, w.before a s = true) : Len.tab.before a s = true := by
  have hc : Cdr.tab.before a s = true := unparts (wk h (.code Cdr.yN Cdr.yB 1 (some .byte))) (wks h (.initialized Cdr.yN.cls :: Cdr.site))
  have q := consq hc h
  exact unparts (wk q (.code Len.yN Len.yB 1 (some .int))) (wks q (.initialized Len.yN.cls :: Len.site))
theorem movedLen {Z s : State} {a0 args : Array Value} (hZ : Z.Warmed39 s.vm) (hw : ∀ d ∈ wordsLen, d.before a0 Z = true) : ∀ d ∈ wordsLen, d.before args s = true := fun d hd => by
  have q := hw d hd
  have t : ∀ d ∈ wordsLen, d = .arrayClass .byte ∨ (d.onTables && d.keepsFace) = true := by decide +kernel
  rcases t d hd with rfl | t
  · exact RoadKit.mvA hZ q
  · exact RoadKit.mv hZ q t
/-- the bytes of the chars cs, low before high -/
def wideBytes : List Int32 → List Value
  | [] => []
  | c :: cs => .int (lo8 c) :: .int (hi8 c) :: wideBytes cs
theorem wide_lo (d : Value) : ∀ (cs : List Int32) (j : Nat), j < cs.length → (wideBytes cs).getD (2 * j) d = .int (lo8 (cs.getD j 0))
  | [], j, h => absurd h (Nat.not_lt_zero j)
  | c :: cs, 0, _ => rfl
  | c :: cs, j + 1, h => by
    have q := wide_lo d cs j (by simpa using h)
    rw [show 2 * (j + 1) = 2 * j + 1 + 1 from by omega]
    simpa [wideBytes] using q
theorem wide_hi (d : Value) : ∀ (cs : List Int32) (j : Nat), j < cs.length → (wideBytes cs).getD (2 * j + 1) d = .int (hi8 (cs.getD j 0))
  | [], j, h => absurd h (Nat.not_lt_zero j)
  | c :: cs, 0, _ => rfl
  | c :: cs, j + 1, h => by
    have q := wide_hi d cs j (by simpa using h)
    rw [show 2 * (j + 1) + 1 = 2 * j + 1 + 1 + 1 from by omega]
    simpa [wideBytes] using q
theorem low_at (d : Value) (cs : List Int32) (j : Nat) (h : j < cs.length) : (cs.map fun c => Value.int (lo8 c)).getD j d = .int (lo8 (cs.getD j 0)) := by
  simp [List.getD_eq_getElem?_getD, h]
/-- an array of N2 bytes vs codes the chars cs by the coder cd -/
def CodA (cs : List Int32) (cd N2 : Int32) (vs : List Value) : Prop := (cd = 0 ∧ N2 = Int32.ofNat cs.length ∧ vs = (cs.map fun c => Value.int (lo8 c)) ∧ ∀ c ∈ cs, ¬ 255 < c) ∨ (cd = 1 ∧ N2 = Int32.ofNat (2 * cs.length) ∧ vs = wideBytes cs ∧ ∃ c ∈ cs, 255 < c)
theorem CodA.cod {cs : List Int32} {cd N2 : Int32} {vs : List Value} {V : Cell} (h : CodA cs cd N2 vs) (hn : 2 * cs.length < 2 ^ 31) (hs : V.slots.size = N2.toNatClampNeg) (hv : RoadKit.Has V vs (.int 0)) : Cod cd cs.length (fun j => cs.getD j 0) V := by
  rcases h with ⟨rfl, rfl, rfl, h⟩ | ⟨rfl, rfl, rfl, c, hc, hw⟩
  · rw [n32 (by omega)] at hs
    exact Or.inl ⟨rfl, hs, fun j hj => ⟨by rw [hv j (by omega), low_at _ _ _ hj], by
      have e : cs.getD j 0 = cs[j] := by simp [List.getD_eq_getElem?_getD, hj]
      show ¬ 255 < cs.getD j 0
      rw [e]; exact h _ (List.getElem_mem _)⟩⟩
  · rw [n32 (by omega)] at hs
    obtain ⟨j, hj, rfl⟩ := List.getElem_of_mem hc
    exact Or.inr ⟨rfl, hs, fun j hj => ⟨by rw [hv _ (by omega), wide_lo _ _ _ hj], by rw [hv _ (by omega), wide_hi _ _ _ hj]⟩, j, hj, by
      have e : cs.getD j 0 = cs[j] := by simp [List.getD_eq_getElem?_getD, hj]
      show 255 < cs.getD j 0
      rw [e]; exact hw⟩
/-- an object of exactly java/lang/String, its two fields found: as the laws ask it -/
theorem strObj {Z U : State} {a0 : Array Value} {kI : Nat} (wi : (Jvm.Cond.instantiable ST kI).before a0 Z = true) (al : Z.vm.Alike U.vm) {x : Addr} {v0 c0 : Value} (E : RoadKit.Exa Z U.heap x ST) (V : RoadKit.Fld Z U.heap x ST "value" "[B" v0) (C : RoadKit.Fld Z U.heap x ST "coder" "B" c0) :
    ∃ (D : Cell) (fV fC : Field), Blank ST x D U ∧ Found ST "value" "[B" fV U ∧ Found ST "coder" "B" fC U ∧ D.slots[fV.slot]? = some v0 ∧ D.slots[fC.slot]? = some c0 ∧ RoadKit.slotOf Z ST "value" "[B" = fV.slot ∧ RoadKit.slotOf Z ST "coder" "B" = fC.slot := by
  obtain ⟨D, cfV, kV, iV, fV, hD, gV, stV, knV, obV, asV, slV⟩ := V
  obtain ⟨D', cfC, kC, iC, fC, hD', gC, stC, -, -, asC, slC⟩ := C
  cases hD.symm.trans hD'
  obtain ⟨D2, kD, e1, e2, e3, e4, e5⟩ := E
  cases hD.symm.trans e1
  obtain ⟨c2, k2, i1, i2, i3, -⟩ := Cond.instantiable_spec wi
  cases e2.symm.trans i1
  cases e3.symm.trans i2
  obtain ⟨kU, u1, u2⟩ := al.2.2 _ _ e3
  exact ⟨D, fV, fC, ⟨hD, ⟨knV, fun q hq => by rw [hq] at obV; cases obV⟩, by rw [al.findClass]; exact e2, kU, u1, by rw [u2]; exact i3, by rw [u2]; exact e5 i3⟩, ⟨SBG.found_only al ⟨cfV, kV, iV, gV⟩, stV⟩, ⟨SBG.found_only al ⟨cfC, kC, iC, gC⟩, stC⟩, slV, slC, by simp [RoadKit.slotOf, gV], by simp [RoadKit.slotOf, gC]⟩
theorem sta_is {Z U : State} (al : Z.vm.Alike U.vm) {C n d : String} {v : Value} (S : RoadKit.Sta Z U.heap C n d v) : StaticIs U C n d v := by
  obtain ⟨cfS, iS, kS, fS, st, cS, t1, t2, t3, t4, t5, t6, t7⟩ := S
  exact StaticIs.there (s := { Z with heap := U.heap }) ⟨cfS, iS, kS, fS, st, cS, t1, t2, t3, t4, t5, (fun q => by rw [q] at t6; cases t6), t7⟩ al rfl
/-- **length() OF SUCH A STRING** -/
theorem lenW {p : Program} {l : Launch} {e : Env} {R : Room} {s : State} {args : Array Value} {below : List Frame} {len W : Nat} {Z : State} {a0 : Array Value} {h : Heap} (hZ : Z.Warmed39 s.vm) (hw : ∀ d ∈ wordsLen, d.before a0 Z = true) {kI : Nat} (wi : (Jvm.Cond.instantiable ST kI).before a0 Z = true)
    {x t : Addr} {kb : ClassId} {cs : List Int32} {cd N2 z : Int32} {vs : List Value} (E : RoadKit.Exa Z h x ST) (V : RoadKit.Fld Z h x ST "value" "[B" (.ref t)) (C : RoadKit.Fld Z h x ST "coder" "B" (.int cd)) (K : RoadKit.Arv Z h t kb .byte N2 vs (.int 0)) (hc : CodA cs cd N2 vs) (hb : ∀ c ∈ cs, ¬ c < 0 ∧ ¬ (65535 : Int32) < c)
    (S : RoadKit.Sta Z h ST "COMPACT_STRINGS" "Z" (.int z)) (hz : ¬ z = 0) (l2 : cs.length ≤ 4000) (hfr : 2 ≤ R.frames) (hlo : W + 25 ≤ R.locals) :
    Back l R p e below s args (⟨"java/lang/String", "length", "()I"⟩ : MethodName) len W (fun P a => a = #[.ref x] ∧ P.U.heap = h ∧ P.cells + 0 ≤ R.cells ∧ P.slots + 0 ≤ R.slots)
      (fun P _ v B => ∃ L, (v = some (.int (Int32.ofNat cs.length)) ∧ L = [] ∧ B.U.heap = h) ∧ B.locs = P.locs ++ L ∧ B.cells = P.cells + 0 ∧ B.slots = P.slots + 0) := by
  obtain ⟨A, K1, K2, K3, K4, K5, K6⟩ := K
  have hcod := hc.cod (by omega) K3 K5
  intro m meth c P g ig mk a X hg hsize hdg hW hn hp'
  obtain ⟨rfl, rfl, r1, r2⟩ := hp'
  have al : Z.vm.Alike P.U.vm := hZ.alike.trans X.warmed.alike
  obtain ⟨D, fV, fC, hB, F1, F2, g1, g2, -, -⟩ := strObj wi al E V C
  have hx : Txt x t A cd cs.length (fun j => cs.getD j 0) P.U := ⟨⟨_, hB.2.2.1, D, hB.1, rfl, by cases q : D.vm <;> first | rfl | exact absurd q (hB.2.1.2 _)⟩, Has.of hB F1 g1, Has.of hB F2 g2, ⟨K1.1, State.isArrayOf_alike al K1.2.1, K1.2.2, by rcases hcod with ⟨-, q, -⟩ | ⟨-, q, -⟩ <;> omega⟩, hcod, fun j hj => by
    have e : cs.getD j 0 = cs[j] := by simp [List.getD_eq_getElem?_getD, hj]
    show ¬ cs.getD j 0 < 0 ∧ ¬ 65535 < cs.getD j 0
    rw [e]; exact hb _ (List.getElem_mem _)⟩
  obtain ⟨v, B, X', ⟨⟨hv, hh⟩, hl, hk, hs⟩, st⟩ := Len.pays x t A cd cs.length (fun j => cs.getD j 0) z (tabLen_of (movedLen hZ hw)) hfr hlo m meth c P g ig mk _ X hg hsize hdg hW hn ⟨r1, r2, rfl, hx, sta_is al S, hz⟩
  exact ⟨v, B, X', ⟨[], ⟨hv, rfl, hh⟩, hl, hk, hs⟩, st⟩
end StrChars.Road
namespace StrChars.Road
open Jvm Sem ClassFile Op Lib Jvm.Stand Jvm.Free Jvm.Free.XT
open Jvm.Lib.Cold (StaticIs)
/-- what backV says of its String, as the contracts of this text ask it: cs's low bytes, coder 0 -/
theorem codOf {cs : List Int32} {n : Nat} (hn : cs.length = n) (hb : ∀ c ∈ cs, ¬ 255 < c) : CodA cs 0 (Int32.ofNat n) ((cs.map lo8).map Value.int) := Or.inl ⟨rfl, by rw [hn], by simp [List.map_map, Function.comp_def], hb⟩
end StrChars.Road
end Jvm.Pilot.@@N@@
namespace Jvm.Pilot.@@N@@.Y
open Jvm Jvm.ClassFile Sem Op Lib Jvm.Free Jvm.Stand Jvm.LawKit Jvm.RoadKit Bundle
/-- from st the run comes to an end that G tells -/
def Ends (p : Program) (e : Env) (below : List Frame) (G : Outcome → State → Prop) (st : State) : Prop := ∃ s₂ o, Steps p.tables e below st s₂ ∧ s₂.status = .running ∧ Ended s₂ below o ∧ G o s₂
theorem Ends.go {p : Program} {e : Env} {below : List Frame} {G : Outcome → State → Prop} {A B : State} (k : ∀ t, Steps p.tables e below B t → Steps p.tables e below A t) (h : Ends p e below G B) : Ends p e below G A := by
  obtain ⟨s₂, o, h1, h2⟩ := h
  exact ⟨s₂, o, k _ h1, h2⟩
theorem leB {a b : Nat} (h : Nat.ble a b = true) : a ≤ b := Nat.le_of_ble_eq_true h
theorem catR {v : Value} (h : v.isRef = true) : v.category = 1 := by rcases ref_cases h with rfl | ⟨z, rfl⟩ <;> rfl
theorem narR {v : Value} {C : String} (h : v.isRef = true) : narrow (.object C) v = v := by rcases ref_cases h with rfl | ⟨z, rfl⟩ <;> rfl
theorem fitR {v : Value} {C : String} (h : v.isRef = true) : fits (.object C) v = true := by rcases ref_cases h with rfl | ⟨z, rfl⟩ <;> rfl
theorem b01 {q : Int32} (h : q = 0 ∨ q = 1) : narrow .boolean (.int q) = .int q ∧ fits .boolean (.int q) = true := by rcases h with rfl | rfl <;> exact ⟨rfl, rfl⟩
theorem or01 {q : Int32} {c : Prop} (h : (q = 0 ∧ c) ∨ (q = 1 ∧ ¬ c)) : q = 0 ∨ q = 1 := h.imp (·.1) (·.1)
theorem or10 {q : Int32} {c : Prop} (h : (q = 1 ∧ c) ∨ (q = 0 ∧ ¬ c)) : q = 0 ∨ q = 1 := (h.imp (·.1) (·.1)).symm
/-- where the walk stands: over the start s with the tables vm0; h the heap at hand; ws: the old places it may write -/
def Wk (co : Bool) (Z : State) (a0 : Array Value) (EL : List (String × Nat)) (own : String) (bytes : ByteArray) (maxL : Nat) (ret : Option FieldType) (nm : String) (ws : List Addr) (p : Program) (l : Launch) (e : Env) (R : Room) (s : State) (m : MethodId) (args : Array Value) (below : List Frame) (meth : Method) (c : Code) (vm0 : Vm) (T : State) (h : Heap) (locs : List Loc) (cells slots : Nat) : Prop :=
  Stand p l e R (s.setVm vm0) m args below meth c T locs cells slots ∧ T.heap = h ∧ (∃ k0, s.Since vm0 k0 ∧ k0 ≤ h.size) ∧ (co = false → vm0 = s.vm) ∧ Z.Warmed39 vm0 ∧ vm0.findClass own = some m.cls ∧ CHr Z EL s.vm s.heap vm0 h ∧ EW Z a0 EL ∧
  (p.tables.exec = Jvm.exec ∧ c.code = bytes ∧ c.maxLocals = maxL ∧ meth.sig.returnType = ret ∧ meth.name = nm ∧ meth.locks = false) ∧ Ext Z.heap h ∧ Fr Z.heap.size locs ∧ Keep s.heap h ws
section Walk
variable {co : Bool} {Z : State} {a0 : Array Value} {EL : List (String × Nat)} {own : String} {bytes : ByteArray} {maxL : Nat} {ret : Option FieldType} {nm : String} {ws : List Addr} {p : Program} {l : Launch} {e : Env} {R : Room} {s : State} {m : MethodId} {args : Array Value} {below : List Frame} {meth : Method} {c : Code} {vm0 : Vm} {T : State} {h : Heap} {locs : List Loc} {cells slots : Nat} {G : Outcome → State → Prop} {pc pc' : Nat} {ls ls' : Array Slot} {rest : List Value}
abbrev WkA (co : Bool) (Z : State) (a0 : Array Value) (EL : List (String × Nat)) (own : String) (bytes : ByteArray) (maxL : Nat) (ret : Option FieldType) (nm : String) (ws : List Addr) (p : Program) (l : Launch) (e : Env) (R : Room) (s : State) (m : MethodId) (args : Array Value) (below : List Frame) (meth : Method) (c : Code) (vm0 : Vm) (T : State) (h : Heap) (locs : List Loc) (cells slots : Nat) : Prop := Wk co Z a0 EL own bytes maxL ret nm ws p l e R s m args below meth c vm0 T h locs cells slots
theorem Wk.st (X : Wk co Z a0 EL own bytes maxL ret nm ws p l e R s m args below meth c vm0 T h locs cells slots) : Stand p l e R (s.setVm vm0) m args below meth c T locs cells slots := X.1
theorem Wk.eT (X : Wk co Z a0 EL own bytes maxL ret nm ws p l e R s m args below meth c vm0 T h locs cells slots) : T.heap = h := X.2.1
theorem Wk.hx (X : Wk co Z a0 EL own bytes maxL ret nm ws p l e R s m args below meth c vm0 T h locs cells slots) : p.tables.exec = Jvm.exec := X.2.2.2.2.2.2.2.2.1.1
theorem Wk.hd (X : Wk co Z a0 EL own bytes maxL ret nm ws p l e R s m args below meth c vm0 T h locs cells slots) {r : Except DecodeError (Instr × Nat)} (d : decode bytes pc = r) : decode c.code pc = r := by
  rw [X.2.2.2.2.2.2.2.2.1.2.1]; exact d
theorem Wk.hml (X : Wk co Z a0 EL own bytes maxL ret nm ws p l e R s m args below meth c vm0 T h locs cells slots) : c.maxLocals = maxL := X.2.2.2.2.2.2.2.2.1.2.2.1
theorem Wk.hret (X : Wk co Z a0 EL own bytes maxL ret nm ws p l e R s m args below meth c vm0 T h locs cells slots) : meth.sig.returnType = ret := X.2.2.2.2.2.2.2.2.1.2.2.2.1
theorem Wk.hnm (X : Wk co Z a0 EL own bytes maxL ret nm ws p l e R s m args below meth c vm0 T h locs cells slots) : meth.name = nm := X.2.2.2.2.2.2.2.2.1.2.2.2.2.1
theorem Wk.hlk (X : Wk co Z a0 EL own bytes maxL ret nm ws p l e R s m args below meth c vm0 T h locs cells slots) : meth.locks = false := X.2.2.2.2.2.2.2.2.1.2.2.2.2.2
theorem Wk.hZ (X : Wk co Z a0 EL own bytes maxL ret nm ws p l e R s m args below meth c vm0 T h locs cells slots) : Z.Warmed39 (s.setVm vm0).vm := X.2.2.2.2.1
theorem Wk.al (X : Wk co Z a0 EL own bytes maxL ret nm ws p l e R s m args below meth c vm0 T h locs cells slots) : Z.vm.Alike vm0 := X.2.2.2.2.1.alike
theorem Wk.hown (X : Wk co Z a0 EL own bytes maxL ret nm ws p l e R s m args below meth c vm0 T h locs cells slots) : (s.setVm vm0).vm.findClass own = some m.cls := X.2.2.2.2.2.1
theorem Wk.ch (X : Wk co Z a0 EL own bytes maxL ret nm ws p l e R s m args below meth c vm0 T h locs cells slots) : CHr Z EL s.vm s.heap vm0 h := X.2.2.2.2.2.2.1
theorem Wk.H (X : Wk co Z a0 EL own bytes maxL ret nm ws p l e R s m args below meth c vm0 T h locs cells slots) : CHv Z EL vm0 h := X.ch.1
theorem Wk.ew (X : Wk co Z a0 EL own bytes maxL ret nm ws p l e R s m args below meth c vm0 T h locs cells slots) : EW Z a0 EL := X.2.2.2.2.2.2.2.1
theorem Wk.old (X : Wk co Z a0 EL own bytes maxL ret nm ws p l e R s m args below meth c vm0 T h locs cells slots) : Ext Z.heap h := X.2.2.2.2.2.2.2.2.2.1
theorem Wk.fr (X : Wk co Z a0 EL own bytes maxL ret nm ws p l e R s m args below meth c vm0 T h locs cells slots) : Fr Z.heap.size locs := X.2.2.2.2.2.2.2.2.2.2.1
theorem Wk.kp (X : Wk co Z a0 EL own bytes maxL ret nm ws p l e R s m args below meth c vm0 T h locs cells slots) : Keep s.heap h ws := X.2.2.2.2.2.2.2.2.2.2.2
theorem Wk.since (X : Wk co Z a0 EL own bytes maxL ret nm ws p l e R s m args below meth c vm0 T h locs cells slots) : ∃ k0, s.Since vm0 k0 ∧ k0 ≤ h.size := X.2.2.1
theorem Wk.nr (X : Wk co Z a0 EL own bytes maxL ret nm ws p l e R s m args below meth c vm0 T h locs cells slots) : co = false → vm0 = s.vm := X.2.2.2.1
/-- a step that leaves the heap -/
theorem Wk.same (X : Wk co Z a0 EL own bytes maxL ret nm ws p l e R s m args below meth c vm0 T h locs cells slots) {T' : State} (Y : Stand p l e R (s.setVm vm0) m args below meth c T' locs cells slots) (e' : T'.heap = h) : Wk co Z a0 EL own bytes maxL ret nm ws p l e R s m args below meth c vm0 T' h locs cells slots :=
  ⟨Y, e', X.2.2⟩
theorem fr_app0 {k : Nat} {L : List Loc} (N : Fr k L) : Fr k (L ++ []) := by rw [List.append_nil]; exact N
/-- a step that makes new cells -/
theorem Wk.ext (X : Wk co Z a0 EL own bytes maxL ret nm ws p l e R s m args below meth c vm0 T h locs cells slots) {T' : State} {h' : Heap} {cells' slots' : Nat} (Y : Stand p l e R (s.setVm vm0) m args below meth c T' locs cells' slots') (e' : T'.heap = h') (E : Ext h h') : Wk co Z a0 EL own bytes maxL ret nm ws p l e R s m args below meth c vm0 T' h' locs cells' slots' := by
  obtain ⟨k0, k1, k2⟩ := X.since
  exact ⟨Y, e', ⟨k0, k1, Nat.le_trans k2 E.1⟩, X.nr, X.hZ, X.hown, X.ch.trans (CHr.ext E X.H), X.ew, X.2.2.2.2.2.2.2.2.1, ⟨Nat.le_trans X.old.1 E.1, fun a cl q => E.2 _ _ (X.old.2 _ _ q)⟩, X.fr, X.kp.ext E⟩
/-- a narrow call: L written, of old cells those at wc alone -/
theorem Wk.keep (X : Wk co Z a0 EL own bytes maxL ret nm ws p l e R s m args below meth c vm0 T h locs cells slots) {T' : State} {h' : Heap} {L : List Loc} {wc : List Addr} {cells' slots' : Nat} (Y : Stand p l e R (s.setVm vm0) m args below meth c T' (locs ++ L) cells' slots') (e' : T'.heap = h') (K : Keep h h' wc) (S : ∀ x ∈ wc, Safe Z EL vm0 h x) (N : Fr Z.heap.size L) (hn : ∀ x ∈ wc, Z.heap.size ≤ x) (hk : ∀ x ∈ wc, x ∈ ws ∨ s.heap.size ≤ x) : Wk co Z a0 EL own bytes maxL ret nm ws p l e R s m args below meth c vm0 T' h' (locs ++ L) cells' slots' := by
  obtain ⟨k0, k1, k2⟩ := X.since
  have O : Old Z Z.heap.size h' := Old.keep ⟨rfl, X.old⟩ K hn
  exact ⟨Y, e', ⟨k0, k1, Nat.le_trans k2 K.1⟩, X.nr, X.hZ, X.hown, X.ch.trans (CHr.keep K S X.H), X.ew, X.2.2.2.2.2.2.2.2.1, O.2, X.fr.app N, X.kp.trans K hk⟩
/-- one place of a new object written -/
theorem Wk.wr (X : Wk co Z a0 EL own bytes maxL ret nm ws p l e R s m args below meth c vm0 T h locs cells slots) {T' : State} {h' : Heap} {a : Addr} {sl : Nat} {v : Value} (Y : Stand p l e R (s.setVm vm0) m args below meth c T' (locs ++ [⟨a, sl⟩]) cells slots) (e' : T'.heap = h') (W : Wr h h' a sl v) (S : Safe Z EL vm0 h a) (hn : Z.heap.size ≤ a) (hk : a ∈ ws ∨ s.heap.size ≤ a) : Wk co Z a0 EL own bytes maxL ret nm ws p l e R s m args below meth c vm0 T' h' (locs ++ [⟨a, sl⟩]) cells slots :=
  X.keep Y e' (Keep.of_wr W) (sfS S sf0) (fun y hy => by cases List.mem_singleton.mp hy; exact hn) (allS hn all0) (allS hk all0)
/-- a callee that may intern -/
theorem Wk.cold (X : Wk true Z a0 EL own bytes maxL ret nm ws p l e R s m args below meth c vm0 T h locs cells slots) {T' : State} {L : List Loc} {wc : List Addr} {cells' slots' : Nat} (Y : Stand p l e R ((s.setVm vm0).setVm T'.vm) m args below meth c T' (locs ++ L) cells' slots') (hS : (s.setVm vm0).Since T'.vm T'.heap.size) (hC : CHr Z EL vm0 h T'.vm T'.heap) (K : Keep h T'.heap wc) (N : Fr Z.heap.size L) (O : Ext Z.heap T'.heap) (hk : ∀ x ∈ wc, x ∈ ws ∨ s.heap.size ≤ x) : Wk true Z a0 EL own bytes maxL ret nm ws p l e R s m args below meth c T'.vm T' T'.heap (locs ++ L) cells' slots' := by
  obtain ⟨k0, k1, k2⟩ := X.since
  exact ⟨Y, rfl, ⟨_, k1.trans hS (Nat.le_trans k2 K.1), Nat.le_refl _⟩, fun q => (by cases q), State.Warmed39.trans X.hZ hS.1, (by rw [hS.1.alike.findClass]; exact X.hown), X.ch.trans hC, X.ew, X.2.2.2.2.2.2.2.2.1, O, X.fr.app N, X.kp.trans K hk⟩
theorem safeE {vm : Vm} {x : Addr} : Safe Z [] vm h x := fun B => by obtain ⟨q, hq, -⟩ := B; cases hq
theorem chrE {vm vm' : Vm} {h' : Heap} (q : h.size ≤ h'.size) : CHr Z [] vm h vm' h' := ⟨(fun _ hq => by cases hq), q, fun y B => absurd B safeE⟩
/-- a String whose value is still null is no booked one -/
theorem Safe.blank {vm : Vm} {x : Addr} (hal : Z.vm.Alike vm) (E : Exa Z h x "java/lang/String") {k : Nat} (wi : (Cond.instantiable "java/lang/String" k).before a0 Z = true) (F : Fld Z h x "java/lang/String" "value" "[B" .null) : Safe Z EL vm h x := fun B => by
  obtain ⟨pr, -, u, a, -, q, hq, SB, hy⟩ := B
  have hd := SB.hd
  have ha := SB.ha
  rcases hy with rfl | rfl
  · obtain ⟨cS, ⟨⟨-, -, -, ⟨cv, kv, iv, s4, -⟩, -, -, -, v1, -⟩, -⟩, -⟩ := SB
    obtain ⟨cell, cf, k2, i, f, h1, h2, -, -, -, -, h7⟩ := F
    cases (show h[q.sa]? = some q.sC from ha).symm.trans h1
    obtain ⟨k3, e3, -⟩ := State.fieldFound?_setVm (s := ({ Z with heap := h } : State)) (vm' := vm) hal h2
    have e4 := (show (Wst Z vm h).fieldFound? _ _ _ = _ from e3).symm.trans s4
    simp only [Option.some.injEq, Prod.mk.injEq] at e4
    rw [← e4.2.2.2, h7] at v1
    cases v1
  · obtain ⟨cS, ⟨⟨-, -, -, -, -, -, -, -, -, -, ⟨-, kB, hkB, compB, hkindB⟩, -⟩, -, -⟩, -⟩ := SB
    obtain ⟨cell, kE, e1, e2, e3, -, -⟩ := E
    cases (show h[q.sd]? = some q.SA from hd).symm.trans e1
    obtain ⟨c2, k2, i1, i2, i3, -⟩ := Cond.instantiable_spec wi
    cases e2.symm.trans i1
    obtain ⟨kE', hk', ek⟩ := hal.2.2 _ _ i2
    cases (show vm.classes[q.SA.cls]? = some kB from hkB).symm.trans hk'
    rw [ek, i3] at hkindB
    cases hkindB
theorem Wk.iadd (X : Wk co Z a0 EL own bytes maxL ret nm ws p l e R s m args below meth c vm0 T h locs cells slots) {x y : Int32} (hd : decode bytes pc = .ok (.iadd, 1))  (hp : pc + 1 = pc') (k : Ends p e below G (T.setTop (mkF m pc' ls (.int (x + y) :: rest)))) : Ends p e below G (T.setTop (mkF m pc ls (.int y :: .int x :: rest))) := by
  subst hp; exact Ends.go (fun _ q => XS.iadd X.st.here X.hx rfl (X.hd hd) rfl q) k
theorem Wk.isub (X : Wk co Z a0 EL own bytes maxL ret nm ws p l e R s m args below meth c vm0 T h locs cells slots) {x y : Int32} (hd : decode bytes pc = .ok (.isub, 1))  (hp : pc + 1 = pc') (k : Ends p e below G (T.setTop (mkF m pc' ls (.int (x - y) :: rest)))) : Ends p e below G (T.setTop (mkF m pc ls (.int y :: .int x :: rest))) := by
  subst hp; exact Ends.go (fun _ q => XS.isub X.st.here X.hx rfl (X.hd hd) rfl q) k
theorem Wk.imul (X : Wk co Z a0 EL own bytes maxL ret nm ws p l e R s m args below meth c vm0 T h locs cells slots) {x y : Int32} (hd : decode bytes pc = .ok (.imul, 1))  (hp : pc + 1 = pc') (k : Ends p e below G (T.setTop (mkF m pc' ls (.int (x * y) :: rest)))) : Ends p e below G (T.setTop (mkF m pc ls (.int y :: .int x :: rest))) := by
  subst hp; exact Ends.go (fun _ q => XS.imul X.st.here X.hx rfl (X.hd hd) rfl q) k
theorem Wk.iand (X : Wk co Z a0 EL own bytes maxL ret nm ws p l e R s m args below meth c vm0 T h locs cells slots) {x y : Int32} (hd : decode bytes pc = .ok (.iand, 1))  (hp : pc + 1 = pc') (k : Ends p e below G (T.setTop (mkF m pc' ls (.int (x &&& y) :: rest)))) : Ends p e below G (T.setTop (mkF m pc ls (.int y :: .int x :: rest))) := by
  subst hp; exact Ends.go (fun _ q => XS.iand X.st.here X.hx rfl (X.hd hd) rfl q) k
theorem Wk.ior (X : Wk co Z a0 EL own bytes maxL ret nm ws p l e R s m args below meth c vm0 T h locs cells slots) {x y : Int32} (hd : decode bytes pc = .ok (.ior, 1))  (hp : pc + 1 = pc') (k : Ends p e below G (T.setTop (mkF m pc' ls (.int (x ||| y) :: rest)))) : Ends p e below G (T.setTop (mkF m pc ls (.int y :: .int x :: rest))) := by
  subst hp; exact Ends.go (fun _ q => XS.ior X.st.here X.hx rfl (X.hd hd) rfl q) k
theorem Wk.ixor (X : Wk co Z a0 EL own bytes maxL ret nm ws p l e R s m args below meth c vm0 T h locs cells slots) {x y : Int32} (hd : decode bytes pc = .ok (.ixor, 1))  (hp : pc + 1 = pc') (k : Ends p e below G (T.setTop (mkF m pc' ls (.int (x ^^^ y) :: rest)))) : Ends p e below G (T.setTop (mkF m pc ls (.int y :: .int x :: rest))) := by
  subst hp; exact Ends.go (fun _ q => XS.ixor X.st.here X.hx rfl (X.hd hd) rfl q) k
theorem Wk.ishl (X : Wk co Z a0 EL own bytes maxL ret nm ws p l e R s m args below meth c vm0 T h locs cells slots) {x y : Int32} (hd : decode bytes pc = .ok (.ishl, 1))  (hp : pc + 1 = pc') (k : Ends p e below G (T.setTop (mkF m pc' ls (.int (x <<< (y &&& 31)) :: rest)))) : Ends p e below G (T.setTop (mkF m pc ls (.int y :: .int x :: rest))) := by
  subst hp; exact Ends.go (fun _ q => XS.ishl X.st.here X.hx rfl (X.hd hd) rfl q) k
theorem Wk.ishr (X : Wk co Z a0 EL own bytes maxL ret nm ws p l e R s m args below meth c vm0 T h locs cells slots) {x y : Int32} (hd : decode bytes pc = .ok (.ishr, 1))  (hp : pc + 1 = pc') (k : Ends p e below G (T.setTop (mkF m pc' ls (.int (x >>> (y &&& 31)) :: rest)))) : Ends p e below G (T.setTop (mkF m pc ls (.int y :: .int x :: rest))) := by
  subst hp; exact Ends.go (fun _ q => XS.ishr X.st.here X.hx rfl (X.hd hd) rfl q) k
theorem Wk.iushr (X : Wk co Z a0 EL own bytes maxL ret nm ws p l e R s m args below meth c vm0 T h locs cells slots) {x y : Int32} (hd : decode bytes pc = .ok (.iushr, 1))  (hp : pc + 1 = pc') (k : Ends p e below G (T.setTop (mkF m pc' ls (.int ((x.toUInt32 >>> (y &&& 31).toUInt32).toInt32) :: rest)))) : Ends p e below G (T.setTop (mkF m pc ls (.int y :: .int x :: rest))) := by
  subst hp; exact Ends.go (fun _ q => XS.iushr X.st.here X.hx rfl (X.hd hd) rfl q) k
theorem Wk.ladd (X : Wk co Z a0 EL own bytes maxL ret nm ws p l e R s m args below meth c vm0 T h locs cells slots) {x y : Int64} (hd : decode bytes pc = .ok (.ladd, 1))  (hp : pc + 1 = pc') (k : Ends p e below G (T.setTop (mkF m pc' ls (.long (x + y) :: rest)))) : Ends p e below G (T.setTop (mkF m pc ls (.long y :: .long x :: rest))) := by
  subst hp; exact Ends.go (fun _ q => XS.ladd X.st.here X.hx rfl (X.hd hd) rfl q) k
theorem Wk.lsub (X : Wk co Z a0 EL own bytes maxL ret nm ws p l e R s m args below meth c vm0 T h locs cells slots) {x y : Int64} (hd : decode bytes pc = .ok (.lsub, 1))  (hp : pc + 1 = pc') (k : Ends p e below G (T.setTop (mkF m pc' ls (.long (x - y) :: rest)))) : Ends p e below G (T.setTop (mkF m pc ls (.long y :: .long x :: rest))) := by
  subst hp; exact Ends.go (fun _ q => XS.lsub X.st.here X.hx rfl (X.hd hd) rfl q) k
theorem Wk.land (X : Wk co Z a0 EL own bytes maxL ret nm ws p l e R s m args below meth c vm0 T h locs cells slots) {x y : Int64} (hd : decode bytes pc = .ok (.land, 1))  (hp : pc + 1 = pc') (k : Ends p e below G (T.setTop (mkF m pc' ls (.long (x &&& y) :: rest)))) : Ends p e below G (T.setTop (mkF m pc ls (.long y :: .long x :: rest))) := by
  subst hp; exact Ends.go (fun _ q => XS.land X.st.here X.hx rfl (X.hd hd) rfl q) k
theorem Wk.lxor (X : Wk co Z a0 EL own bytes maxL ret nm ws p l e R s m args below meth c vm0 T h locs cells slots) {x y : Int64} (hd : decode bytes pc = .ok (.lxor, 1))  (hp : pc + 1 = pc') (k : Ends p e below G (T.setTop (mkF m pc' ls (.long (x ^^^ y) :: rest)))) : Ends p e below G (T.setTop (mkF m pc ls (.long y :: .long x :: rest))) := by
  subst hp; exact Ends.go (fun _ q => XS.lxor X.st.here X.hx rfl (X.hd hd) rfl q) k
theorem Wk.lor (X : Wk co Z a0 EL own bytes maxL ret nm ws p l e R s m args below meth c vm0 T h locs cells slots) {x y : Int64} (hd : decode bytes pc = .ok (.lor, 1))  (hp : pc + 1 = pc') (k : Ends p e below G (T.setTop (mkF m pc' ls (.long (x ||| y) :: rest)))) : Ends p e below G (T.setTop (mkF m pc ls (.long y :: .long x :: rest))) := by
  subst hp; exact Ends.go (fun _ q => XS.lor X.st.here X.hx rfl (X.hd hd) rfl q) k
theorem Wk.lushr (X : Wk co Z a0 EL own bytes maxL ret nm ws p l e R s m args below meth c vm0 T h locs cells slots) {x : Int64} {y : Int32} (hd : decode bytes pc = .ok (.lushr, 1))  (hp : pc + 1 = pc') (k : Ends p e below G (T.setTop (mkF m pc' ls (.long (XT.ushrL x y) :: rest)))) : Ends p e below G (T.setTop (mkF m pc ls (.int y :: .long x :: rest))) := by
  subst hp; exact Ends.go (fun _ q => XT.lushr X.st.here X.hx rfl (X.hd hd) rfl q) k
theorem Wk.i2c (X : Wk co Z a0 EL own bytes maxL ret nm ws p l e R s m args below meth c vm0 T h locs cells slots) {x : Int32} (hd : decode bytes pc = .ok (.i2c, 1))  (hp : pc + 1 = pc') (k : Ends p e below G (T.setTop (mkF m pc' ls (.int (x.toUInt32.toUInt16.toUInt32.toInt32) :: rest)))) : Ends p e below G (T.setTop (mkF m pc ls (.int x :: rest))) := by
  subst hp; exact Ends.go (fun _ q => XS.i2c X.st.here X.hx rfl (X.hd hd) rfl q) k
theorem Wk.i2b (X : Wk co Z a0 EL own bytes maxL ret nm ws p l e R s m args below meth c vm0 T h locs cells slots) {x : Int32} (hd : decode bytes pc = .ok (.i2b, 1))  (hp : pc + 1 = pc') (k : Ends p e below G (T.setTop (mkF m pc' ls (.int (x.toInt8.toInt32) :: rest)))) : Ends p e below G (T.setTop (mkF m pc ls (.int x :: rest))) := by
  subst hp; exact Ends.go (fun _ q => XS.i2b X.st.here X.hx rfl (X.hd hd) rfl q) k
theorem Wk.i2l (X : Wk co Z a0 EL own bytes maxL ret nm ws p l e R s m args below meth c vm0 T h locs cells slots) {x : Int32} (hd : decode bytes pc = .ok (.i2l, 1))  (hp : pc + 1 = pc') (k : Ends p e below G (T.setTop (mkF m pc' ls (.long (x.toInt64) :: rest)))) : Ends p e below G (T.setTop (mkF m pc ls (.int x :: rest))) := by
  subst hp; exact Ends.go (fun _ q => XS.i2l X.st.here X.hx rfl (X.hd hd) rfl q) k
theorem Wk.l2i (X : Wk co Z a0 EL own bytes maxL ret nm ws p l e R s m args below meth c vm0 T h locs cells slots) {x : Int64} (hd : decode bytes pc = .ok (.l2i, 1))  (hp : pc + 1 = pc') (k : Ends p e below G (T.setTop (mkF m pc' ls (.int (x.toInt32) :: rest)))) : Ends p e below G (T.setTop (mkF m pc ls (.long x :: rest))) := by
  subst hp; exact Ends.go (fun _ q => XS.l2i X.st.here X.hx rfl (X.hd hd) rfl q) k
theorem Wk.ineg (X : Wk co Z a0 EL own bytes maxL ret nm ws p l e R s m args below meth c vm0 T h locs cells slots) {x : Int32} (hd : decode bytes pc = .ok (.ineg, 1))  (hp : pc + 1 = pc') (k : Ends p e below G (T.setTop (mkF m pc' ls (.int (-x) :: rest)))) : Ends p e below G (T.setTop (mkF m pc ls (.int x :: rest))) := by
  subst hp; exact Ends.go (fun _ q => XS.ineg X.st.here X.hx rfl (X.hd hd) rfl q) k
theorem Wk.iconst (X : Wk co Z a0 EL own bytes maxL ret nm ws p l e R s m args below meth c vm0 T h locs cells slots) {i : Int} (v : Int32) (hd : decode bytes pc = .ok (.iconst i, 1)) (hv : Int32.ofInt i = v) (hp : pc + 1 = pc') (k : Ends p e below G (T.setTop (mkF m pc' ls (.int v :: rest)))) : Ends p e below G (T.setTop (mkF m pc ls rest)) := by
  subst hp; subst hv; exact Ends.go (fun _ q => XS.iconst X.st.here X.hx rfl (X.hd hd)  q) k
theorem Wk.bipush (X : Wk co Z a0 EL own bytes maxL ret nm ws p l e R s m args below meth c vm0 T h locs cells slots) {i : Int} (v : Int32) (hd : decode bytes pc = .ok (.bipush i, 2)) (hv : (Int8.ofInt i).toInt32 = v) (hp : pc + 2 = pc') (k : Ends p e below G (T.setTop (mkF m pc' ls (.int v :: rest)))) : Ends p e below G (T.setTop (mkF m pc ls rest)) := by
  subst hp; subst hv; exact Ends.go (fun _ q => XS.bipush X.st.here X.hx rfl (X.hd hd)  q) k
theorem Wk.sipush (X : Wk co Z a0 EL own bytes maxL ret nm ws p l e R s m args below meth c vm0 T h locs cells slots) {i : Int} (v : Int32) (hd : decode bytes pc = .ok (.sipush i, 3)) (hv : (Int16.ofInt i).toInt32 = v) (hp : pc + 3 = pc') (k : Ends p e below G (T.setTop (mkF m pc' ls (.int v :: rest)))) : Ends p e below G (T.setTop (mkF m pc ls rest)) := by
  subst hp; subst hv; exact Ends.go (fun _ q => XS.sipush X.st.here X.hx rfl (X.hd hd)  q) k
theorem Wk.aconstNull (X : Wk co Z a0 EL own bytes maxL ret nm ws p l e R s m args below meth c vm0 T h locs cells slots)  (hd : decode bytes pc = .ok (.aconst_null, 1))  (hp : pc + 1 = pc') (k : Ends p e below G (T.setTop (mkF m pc' ls (.null :: rest)))) : Ends p e below G (T.setTop (mkF m pc ls rest)) := by
  subst hp; exact Ends.go (fun _ q => XS.aconstNull X.st.here X.hx rfl (X.hd hd)  q) k
theorem Wk.aloadN (X : Wk co Z a0 EL own bytes maxL ret nm ws p l e R s m args below meth c vm0 T h locs cells slots) {k : Fin 4} {v : Value} (hd : decode bytes pc = .ok (.aload_n k, 1)) (hl : ls[k.val]? = some (.val v)) (hv : v.isRef = true) (hp : pc + 1 = pc') (kk : Ends p e below G (T.setTop (mkF m pc' ls (v :: rest)))) : Ends p e below G (T.setTop (mkF m pc ls rest)) := by
  subst hp; exact Ends.go (fun _ q => XS.aloadN X.st.here X.hx rfl (X.hd hd) hl hv q) kk
theorem Wk.aload (X : Wk co Z a0 EL own bytes maxL ret nm ws p l e R s m args below meth c vm0 T h locs cells slots) {k : Nat} {v : Value} (hd : decode bytes pc = .ok (.aload k, 2)) (hl : ls[k]? = some (.val v)) (hv : v.isRef = true) (hp : pc + 2 = pc') (kk : Ends p e below G (T.setTop (mkF m pc' ls (v :: rest)))) : Ends p e below G (T.setTop (mkF m pc ls rest)) := by
  subst hp; exact Ends.go (fun _ q => XS.aload X.st.here X.hx rfl (X.hd hd) hl hv q) kk
theorem Wk.iloadN (X : Wk co Z a0 EL own bytes maxL ret nm ws p l e R s m args below meth c vm0 T h locs cells slots) {k : Fin 4} {v : Int32} (hd : decode bytes pc = .ok (.iload_n k, 1)) (hl : ls[k.val]? = some (.val (.int v))) (hp : pc + 1 = pc') (kk : Ends p e below G (T.setTop (mkF m pc' ls (.int v :: rest)))) : Ends p e below G (T.setTop (mkF m pc ls rest)) := by
  subst hp; exact Ends.go (fun _ q => XS.iloadN X.st.here X.hx rfl (X.hd hd) hl q) kk
theorem Wk.iload (X : Wk co Z a0 EL own bytes maxL ret nm ws p l e R s m args below meth c vm0 T h locs cells slots) {k : Nat} {v : Int32} (hd : decode bytes pc = .ok (.iload k, 2)) (hl : ls[k]? = some (.val (.int v))) (hp : pc + 2 = pc') (kk : Ends p e below G (T.setTop (mkF m pc' ls (.int v :: rest)))) : Ends p e below G (T.setTop (mkF m pc ls rest)) := by
  subst hp; exact Ends.go (fun _ q => XS.iload X.st.here X.hx rfl (X.hd hd) hl q) kk
theorem Wk.lloadN (X : Wk co Z a0 EL own bytes maxL ret nm ws p l e R s m args below meth c vm0 T h locs cells slots) {k : Fin 4} {v : Int64} (hd : decode bytes pc = .ok (.lload_n k, 1)) (hl : ls[k.val]? = some (.val (.long v))) (hp : pc + 1 = pc') (kk : Ends p e below G (T.setTop (mkF m pc' ls (.long v :: rest)))) : Ends p e below G (T.setTop (mkF m pc ls rest)) := by
  subst hp; exact Ends.go (fun _ q => XS.lloadN X.st.here X.hx rfl (X.hd hd) hl q) kk
theorem Wk.lload (X : Wk co Z a0 EL own bytes maxL ret nm ws p l e R s m args below meth c vm0 T h locs cells slots) {k : Nat} {v : Int64} (hd : decode bytes pc = .ok (.lload k, 2)) (hl : ls[k]? = some (.val (.long v))) (hp : pc + 2 = pc') (kk : Ends p e below G (T.setTop (mkF m pc' ls (.long v :: rest)))) : Ends p e below G (T.setTop (mkF m pc ls rest)) := by
  subst hp; exact Ends.go (fun _ q => XS.lload X.st.here X.hx rfl (X.hd hd) hl q) kk
theorem Wk.istoreN (X : Wk co Z a0 EL own bytes maxL ret nm ws p l e R s m args below meth c vm0 T h locs cells slots) {k : Fin 4} {x : Int32} (ls' : Array Slot) (hd : decode bytes pc = .ok (.istore_n k, 1)) (hl : storeLocals ls k.val (.int x) = some ls') (hp : pc + 1 = pc') (kk : Ends p e below G (T.setTop (mkF m pc' ls' rest))) : Ends p e below G (T.setTop (mkF m pc ls (.int x :: rest))) := by
  subst hp; exact Ends.go (fun _ q => XS.istoreN X.st.here X.hx rfl (X.hd hd) rfl hl q) kk
theorem Wk.istore (X : Wk co Z a0 EL own bytes maxL ret nm ws p l e R s m args below meth c vm0 T h locs cells slots) {k : Nat} {x : Int32} (ls' : Array Slot) (hd : decode bytes pc = .ok (.istore k, 2)) (hl : storeLocals ls k (.int x) = some ls') (hp : pc + 2 = pc') (kk : Ends p e below G (T.setTop (mkF m pc' ls' rest))) : Ends p e below G (T.setTop (mkF m pc ls (.int x :: rest))) := by
  subst hp; exact Ends.go (fun _ q => XS.istore X.st.here X.hx rfl (X.hd hd) rfl hl q) kk
theorem Wk.lstoreN (X : Wk co Z a0 EL own bytes maxL ret nm ws p l e R s m args below meth c vm0 T h locs cells slots) {k : Fin 4} {x : Int64} (ls' : Array Slot) (hd : decode bytes pc = .ok (.lstore_n k, 1)) (hl : storeLocals ls k.val (.long x) = some ls') (hp : pc + 1 = pc') (kk : Ends p e below G (T.setTop (mkF m pc' ls' rest))) : Ends p e below G (T.setTop (mkF m pc ls (.long x :: rest))) := by
  subst hp; exact Ends.go (fun _ q => XS.lstoreN X.st.here X.hx rfl (X.hd hd) rfl hl q) kk
theorem Wk.lstore (X : Wk co Z a0 EL own bytes maxL ret nm ws p l e R s m args below meth c vm0 T h locs cells slots) {k : Nat} {x : Int64} (ls' : Array Slot) (hd : decode bytes pc = .ok (.lstore k, 2)) (hl : storeLocals ls k (.long x) = some ls') (hp : pc + 2 = pc') (kk : Ends p e below G (T.setTop (mkF m pc' ls' rest))) : Ends p e below G (T.setTop (mkF m pc ls (.long x :: rest))) := by
  subst hp; exact Ends.go (fun _ q => XS.lstore X.st.here X.hx rfl (X.hd hd) rfl hl q) kk
theorem Wk.astoreN (X : Wk co Z a0 EL own bytes maxL ret nm ws p l e R s m args below meth c vm0 T h locs cells slots) {k : Fin 4} {x : Value} (ls' : Array Slot) (hd : decode bytes pc = .ok (.astore_n k, 1)) (hv : x.isRef = true) (hl : storeLocals ls k.val x = some ls') (hp : pc + 1 = pc') (kk : Ends p e below G (T.setTop (mkF m pc' ls' rest))) : Ends p e below G (T.setTop (mkF m pc ls (x :: rest))) := by
  subst hp; exact Ends.go (fun _ q => XS.astoreN X.st.here X.hx rfl (X.hd hd) rfl hv hl q) kk
theorem Wk.astore (X : Wk co Z a0 EL own bytes maxL ret nm ws p l e R s m args below meth c vm0 T h locs cells slots) {k : Nat} {x : Value} (ls' : Array Slot) (hd : decode bytes pc = .ok (.astore k, 2)) (hv : x.isRef = true) (hl : storeLocals ls k x = some ls') (hp : pc + 2 = pc') (kk : Ends p e below G (T.setTop (mkF m pc' ls' rest))) : Ends p e below G (T.setTop (mkF m pc ls (x :: rest))) := by
  subst hp; exact Ends.go (fun _ q => XS.astore X.st.here X.hx rfl (X.hd hd) rfl hv hl q) kk
theorem Wk.iinc (X : Wk co Z a0 EL own bytes maxL ret nm ws p l e R s m args below meth c vm0 T h locs cells slots) {k : Nat} {cst : Int} {x : Int32} (ls' : Array Slot) (hd : decode bytes pc = .ok (.iinc k cst, 3)) (hl : ls[k]? = some (.val (.int x))) (hl' : storeLocals ls k (.int (x + Int32.ofInt cst)) = some ls') (hp : pc + 3 = pc') (kk : Ends p e below G (T.setTop (mkF m pc' ls' rest))) : Ends p e below G (T.setTop (mkF m pc ls rest)) := by
  subst hp; exact Ends.go (fun _ q => XS.iinc X.st.here X.hx rfl (X.hd hd) hl hl' q) kk
theorem Wk.dup (X : Wk co Z a0 EL own bytes maxL ret nm ws p l e R s m args below meth c vm0 T h locs cells slots) {x : Value} (hd : decode bytes pc = .ok (.dup, 1)) (hc : x.category = 1) (hp : pc + 1 = pc') (k : Ends p e below G (T.setTop (mkF m pc' ls (x :: x :: rest)))) : Ends p e below G (T.setTop (mkF m pc ls (x :: rest))) := by
  subst hp; exact Ends.go (fun _ q => XS.dup X.st.here X.hx rfl (X.hd hd) rfl hc q) k
theorem Wk.pop (X : Wk co Z a0 EL own bytes maxL ret nm ws p l e R s m args below meth c vm0 T h locs cells slots) {x : Value} (hd : decode bytes pc = .ok (.pop, 1)) (hc : x.category = 1) (hp : pc + 1 = pc') (k : Ends p e below G (T.setTop (mkF m pc' ls rest))) : Ends p e below G (T.setTop (mkF m pc ls (x :: rest))) := by
  subst hp; exact Ends.go (fun _ q => XS.pop X.st.here X.hx rfl (X.hd hd) rfl hc q) k
theorem Wk.dupX1 (X : Wk co Z a0 EL own bytes maxL ret nm ws p l e R s m args below meth c vm0 T h locs cells slots) {x y : Value} (hd : decode bytes pc = .ok (.dup_x1, 1)) (hc : x.category = 1) (hc' : y.category = 1) (hp : pc + 1 = pc') (k : Ends p e below G (T.setTop (mkF m pc' ls (x :: y :: x :: rest)))) : Ends p e below G (T.setTop (mkF m pc ls (x :: y :: rest))) := by
  subst hp; exact Ends.go (fun _ q => XS.dupX1 X.st.here X.hx rfl (X.hd hd) rfl hc hc' q) k
theorem Wk.irem (X : Wk co Z a0 EL own bytes maxL ret nm ws p l e R s m args below meth c vm0 T h locs cells slots) {x y : Int32} (hd : decode bytes pc = .ok (.irem, 1)) (hy : y ≠ 0) (hp : pc + 1 = pc') (k : Ends p e below G (T.setTop (mkF m pc' ls (.int (x % y) :: rest)))) : Ends p e below G (T.setTop (mkF m pc ls (.int y :: .int x :: rest))) := by
  subst hp; exact Ends.go (fun _ q => iremM X.st X.hx rfl (X.hd hd) rfl hy q) k
theorem Wk.idiv (X : Wk co Z a0 EL own bytes maxL ret nm ws p l e R s m args below meth c vm0 T h locs cells slots) {x y : Int32} (hd : decode bytes pc = .ok (.idiv, 1)) (hy : y ≠ 0) (hp : pc + 1 = pc') (k : Ends p e below G (T.setTop (mkF m pc' ls (.int (x / y) :: rest)))) : Ends p e below G (T.setTop (mkF m pc ls (.int y :: .int x :: rest))) := by
  subst hp; exact Ends.go (fun _ q => XS.idiv X.st.here X.hx rfl (X.hd hd) rfl hy q) k
theorem Wk.goto (X : Wk co Z a0 EL own bytes maxL ret nm ws p l e R s m args below meth c vm0 T h locs cells slots)  {o : Int} (hd : decode bytes pc = .ok (.goto o, 3))  (ho : 0 ≤ (pc : Int) + o) (hp : ((pc : Int) + o).toNat = pc') (k : Ends p e below G (T.setTop (mkF m pc' ls rest))) : Ends p e below G (T.setTop (mkF m pc ls rest)) :=
  Ends.go (fun _ q => XS.goto X.st.here X.hx rfl (pc0 := pc) rfl (X.hd hd)  ho hp q) k
theorem Wk.ifY (X : Wk co Z a0 EL own bytes maxL ret nm ws p l e R s m args below meth c vm0 T h locs cells slots) {cd : ClassFile.Cond} {x : Int32} {o : Int} (hd : decode bytes pc = .ok (.ifCond cd o, 3)) (hc : ifCond.holds cd x = true) (ho : 0 ≤ (pc : Int) + o) (hp : ((pc : Int) + o).toNat = pc') (k : Ends p e below G (T.setTop (mkF m pc' ls rest))) : Ends p e below G (T.setTop (mkF m pc ls (.int x :: rest))) :=
  Ends.go (fun _ q => XS.ifYes X.st.here X.hx rfl (pc0 := pc) rfl (X.hd hd) rfl hc ho hp q) k
theorem Wk.ifN (X : Wk co Z a0 EL own bytes maxL ret nm ws p l e R s m args below meth c vm0 T h locs cells slots) {cd : ClassFile.Cond} {x : Int32} {o : Int} (hd : decode bytes pc = .ok (.ifCond cd o, 3)) (hc : ifCond.holds cd x = false) (hp : pc + 3 = pc') (k : Ends p e below G (T.setTop (mkF m pc' ls rest))) : Ends p e below G (T.setTop (mkF m pc ls (.int x :: rest))) := by
  subst hp; exact Ends.go (fun _ q => XS.ifNo X.st.here X.hx rfl (X.hd hd) rfl hc q) k
theorem Wk.icY (X : Wk co Z a0 EL own bytes maxL ret nm ws p l e R s m args below meth c vm0 T h locs cells slots) {cd : ClassFile.Cond} {x y : Int32} {o : Int} (hd : decode bytes pc = .ok (.if_icmp cd o, 3)) (hc : if_icmp.holds cd x y = true) (ho : 0 ≤ (pc : Int) + o) (hp : ((pc : Int) + o).toNat = pc') (k : Ends p e below G (T.setTop (mkF m pc' ls rest))) : Ends p e below G (T.setTop (mkF m pc ls (.int y :: .int x :: rest))) :=
  Ends.go (fun _ q => XS.icmpYes X.st.here X.hx rfl (pc0 := pc) rfl (X.hd hd) rfl hc ho hp q) k
theorem Wk.icN (X : Wk co Z a0 EL own bytes maxL ret nm ws p l e R s m args below meth c vm0 T h locs cells slots) {cd : ClassFile.Cond} {x y : Int32} {o : Int} (hd : decode bytes pc = .ok (.if_icmp cd o, 3)) (hc : if_icmp.holds cd x y = false) (hp : pc + 3 = pc') (k : Ends p e below G (T.setTop (mkF m pc' ls rest))) : Ends p e below G (T.setTop (mkF m pc ls (.int y :: .int x :: rest))) := by
  subst hp; exact Ends.go (fun _ q => XS.icmpNo X.st.here X.hx rfl (X.hd hd) rfl hc q) k
theorem Wk.nullY (X : Wk co Z a0 EL own bytes maxL ret nm ws p l e R s m args below meth c vm0 T h locs cells slots)  {o : Int} (hd : decode bytes pc = .ok (.ifnull o, 3))  (ho : 0 ≤ (pc : Int) + o) (hp : ((pc : Int) + o).toNat = pc') (k : Ends p e below G (T.setTop (mkF m pc' ls rest))) : Ends p e below G (T.setTop (mkF m pc ls (.null :: rest))) :=
  Ends.go (fun _ q => XS.ifnullYes X.st.here X.hx rfl (pc0 := pc) rfl (X.hd hd) rfl ho hp q) k
theorem Wk.nullN (X : Wk co Z a0 EL own bytes maxL ret nm ws p l e R s m args below meth c vm0 T h locs cells slots) {b : Addr} {o : Int} (hd : decode bytes pc = .ok (.ifnull o, 3))  (hp : pc + 3 = pc') (k : Ends p e below G (T.setTop (mkF m pc' ls rest))) : Ends p e below G (T.setTop (mkF m pc ls (.ref b :: rest))) := by
  subst hp; exact Ends.go (fun _ q => XS.ifnullNo X.st.here X.hx rfl (X.hd hd) rfl q) k
theorem Wk.nonY (X : Wk co Z a0 EL own bytes maxL ret nm ws p l e R s m args below meth c vm0 T h locs cells slots) {b : Addr} {o : Int} (hd : decode bytes pc = .ok (.ifnonnull o, 3))  (ho : 0 ≤ (pc : Int) + o) (hp : ((pc : Int) + o).toNat = pc') (k : Ends p e below G (T.setTop (mkF m pc' ls rest))) : Ends p e below G (T.setTop (mkF m pc ls (.ref b :: rest))) :=
  Ends.go (fun _ q => XS.ifnonnullYes X.st.here X.hx rfl (pc0 := pc) rfl (X.hd hd) rfl ho hp q) k
theorem Wk.nonN (X : Wk co Z a0 EL own bytes maxL ret nm ws p l e R s m args below meth c vm0 T h locs cells slots)  {o : Int} (hd : decode bytes pc = .ok (.ifnonnull o, 3))  (hp : pc + 3 = pc') (k : Ends p e below G (T.setTop (mkF m pc' ls rest))) : Ends p e below G (T.setTop (mkF m pc ls (.null :: rest))) := by
  subst hp; exact Ends.go (fun _ q => XS.ifnonnullNo X.st.here X.hx rfl (X.hd hd) rfl q) k
theorem Wk.acmp (X : Wk co Z a0 EL own bytes maxL ret nm ws p l e R s m args below meth c vm0 T h locs cells slots) {cd : ACond} {x y : Value} {o : Int} (hd : decode bytes pc = .ok (.if_acmp cd o, 3)) (h1 : x.isRef = true) (h2 : y.isRef = true) (same : Bool) (hq : decide (x = y) = same) (ho : 0 ≤ (pc : Int) + o) (hp : pc' = if acV cd same = true then ((pc : Int) + o).toNat else pc + 3) (k : Ends p e below G (T.setTop (mkF m pc' ls rest))) : Ends p e below G (T.setTop (mkF m pc ls (y :: x :: rest))) :=
  Ends.go (fun _ q => Jvm.RoadKit.acmp (g := mkF m pc ls (y :: x :: rest)) X.st X.hx rfl h1 h2 (pc0 := pc) rfl (X.hd hd) rfl hq ho hp q) k
theorem Wk.getF (X : Wk co Z a0 EL own bytes maxL ret nm ws p l e R s m args below meth c vm0 T h locs cells slots) {R0 O n d : String} {index : Nat} (w : (Cond.fieldLink own index R0 n d).before a0 Z = true) (via : Via Z R0 O n d) {a : Addr} {v : Value} (F : Fld Z h a O n d v) (hd : decode bytes pc = .ok (.getfield index, 3)) (hp : pc + 3 = pc') (k : ∀ T, Wk co Z a0 EL own bytes maxL ret nm ws p l e R s m args below meth c vm0 T h locs cells slots → Ends p e below G (T.setTop (mkF m pc' ls (v :: rest)))) : Ends p e below G (T.setTop (mkF m pc ls (.ref a :: rest))) := by
  subst hp
  obtain ⟨T', Y, e', st⟩ := RoadKit.getF X.st X.hx X.hZ X.hown (host := "") (Or.inl w) via X.eT F (g := mkF m pc ls (.ref a :: rest)) rfl rfl (X.hd hd)
  exact Ends.go (fun _ q => st _ q) (k _ (X.same Y e'))
theorem Wk.getS (X : Wk co Z a0 EL own bytes maxL ret nm ws p l e R s m args below meth c vm0 T h locs cells slots) {R0 O n d : String} {index : Nat} (w : (Cond.fieldLink own index R0 n d).before a0 Z = true) (via : Via Z R0 O n d) {v : Value} (F : Sta Z Z.heap O n d v) (hd : decode bytes pc = .ok (.getstatic index, 3)) (hp : pc + 3 = pc') (k : ∀ T, Wk co Z a0 EL own bytes maxL ret nm ws p l e R s m args below meth c vm0 T h locs cells slots → Ends p e below G (T.setTop (mkF m pc' ls (v :: rest)))) : Ends p e below G (T.setTop (mkF m pc ls rest)) := by
  subst hp
  obtain ⟨T', Y, e', st⟩ := RoadKit.getS (host := "") X.st X.hx X.hZ X.hown w via X.eT (F.ext X.old) (g := mkF m pc ls rest) rfl (X.hd hd)
  exact Ends.go (fun _ q => st _ q) (k _ (X.same Y e'))
theorem Wk.putF (X : Wk co Z a0 EL own bytes maxL ret nm ws p l e R s m args below meth c vm0 T h locs cells slots) {R0 O n d C : String} {index kk : Nat} (w : (Cond.fieldLink own index R0 n d).before a0 Z = true) (via : Via Z R0 O n d) {a : Addr} {v old : Value} (F : Fld Z h a O n d old) (E : Exa Z h a C) (L : (Cond.lays C O n d).before a0 Z = true ∨ ((Cond.laysFinal C O n d).before a0 Z = true ∧ own = O ∧ nm = "<init>")) (wi : (Cond.instantiable C kk).before a0 Z = true) (ty : FieldType) (hty : parseFieldDescriptor d = some ty) (hn : narrow ty v = v) (hf : fits ty v = true) (S : Safe Z EL vm0 h a) (hz : Z.heap.size ≤ a) (hk : a ∈ ws ∨ s.heap.size ≤ a) (hd : decode bytes pc = .ok (.putfield index, 3)) (hp : pc + 3 = pc') (k : ∀ T h' L, Wk co Z a0 EL own bytes maxL ret nm ws p l e R s m args below meth c vm0 T h' L cells slots → Wr h h' a (RoadKit.slotOf Z O n d) v → Ends p e below G (T.setTop (mkF m pc' ls rest))) : Ends p e below G (T.setTop (mkF m pc ls (v :: .ref a :: rest))) := by
  subst hp
  obtain ⟨T', h', Y, e', W, st⟩ := RoadKit.putF X.st X.hx X.hZ X.hown (host := "") (Or.inl w) via X.eT F E (L.imp id fun q => ⟨q.1, q.2.1, X.hnm.trans q.2.2⟩) wi hty hn hf (g := mkF m pc ls (v :: .ref a :: rest)) rfl rfl (X.hd hd)
  exact Ends.go (fun _ q => st _ q) (k _ _ _ (X.wr Y e' W S hz hk) W)
theorem Wk.newO (X : Wk co Z a0 EL own bytes maxL ret nm ws p l e R s m args below meth c vm0 T h locs cells slots) {C : String} {index n : Nat} (w : (Cond.classLink own index C).before a0 Z = true) (wi : (Cond.instantiable C n).before a0 Z = true) (wz : (Cond.initialized C).before a0 Z = true) (hd : decode bytes pc = .ok (.new index, 3)) (hc : cells + 1 ≤ R.cells) (hl : slots + n ≤ R.slots) (hp : pc + 3 = pc') (k : ∀ T h' b, b = h.size → Ext h h' → b < h'.size → Exa Z h' b C → (∀ {O nm d : String} {ty : FieldType}, Laid Z a0 C O nm d → parseFieldDescriptor d = some ty → Fld Z h' b O nm d (defaultValue ty)) → Wk co Z a0 EL own bytes maxL ret nm ws p l e R s m args below meth c vm0 T h' locs (cells + 1) (slots + n) → Ends p e below G (T.setTop (mkF m pc' ls (.ref b :: rest)))) : Ends p e below G (T.setTop (mkF m pc ls rest)) := by
  subst hp
  obtain ⟨T', h', Y, e', E, A, D, -, st⟩ := RoadKit.newO X.st X.hx X.hZ X.hown w wi wz X.eT (g := mkF m pc ls rest) rfl (X.hd hd) hc hl
  exact Ends.go (fun _ q => st _ q) (k _ _ _ rfl E A.lt A D (X.ext Y e' E))
theorem Wk.newP (X : Wk co Z a0 EL own bytes maxL ret nm ws p l e R s m args below meth c vm0 T h locs cells slots) {aty : ArrayType} (w : (Cond.arrayClass (newarray.typeOf aty)).before a0 Z = true) {n : Int32} (hd : decode bytes pc = .ok (.newarray aty, 2)) (hn : ¬ n < 0) (cap : Nat) (hcap : n.toNatClampNeg ≤ cap) (hb : cap * 8 ≤ 536870912) (hc : cells + 1 ≤ R.cells) (hl : slots + cap ≤ R.slots) (hp : pc + 2 = pc') (k : ∀ T h' b ka, b = h.size → Ext h h' → b < h'.size → Arv Z h' b ka (newarray.typeOf aty) n [] (defaultValue (newarray.typeOf aty)) → Wk co Z a0 EL own bytes maxL ret nm ws p l e R s m args below meth c vm0 T h' locs (cells + 1) (slots + cap) → Ends p e below G (T.setTop (mkF m pc' ls (.ref b :: rest)))) : Ends p e below G (T.setTop (mkF m pc ls (.int n :: rest))) := by
  subst hp
  obtain ⟨T', h', ka, Y, e', E, A, st⟩ := RoadKit.newP X.st X.hx X.hZ w X.eT (g := mkF m pc ls (.int n :: rest)) rfl (X.hd hd) rfl hn hcap hb hc hl
  exact Ends.go (fun _ q => st _ q) (k _ _ _ _ rfl E A.lt (Arv.new A hn) (X.ext Y e' E))
theorem Wk.castore (X : Wk co Z a0 EL own bytes maxL ret nm ws p l e R s m args below meth c vm0 T h locs cells slots) {a : Addr} {ka : ClassId} {z j x : Int32} {vs : List Value} {dv : Value} (A : Arv Z h a ka .char z vs dv) (hj : ¬ j < 0 ∧ j < z) (i : Nat) (hi : j.toNatClampNeg = i) (hl : i < vs.length) (hz : Z.heap.size ≤ a) (hk : a ∈ ws ∨ s.heap.size ≤ a) (hd : decode bytes pc = .ok (.castore, 1)) (hp : pc + 1 = pc') (k : ∀ T h' L, Wk co Z a0 EL own bytes maxL ret nm ws p l e R s m args below meth c vm0 T h' L cells slots → Wr h h' a j.toNatClampNeg (.int (nar .char x)) → Arv Z h' a ka .char z (vs.set i (.int (nar .char x))) dv → Ends p e below G (T.setTop (mkF m pc' ls rest))) : Ends p e below G (T.setTop (mkF m pc ls (.int x :: .int j :: .ref a :: rest))) := by
  subst hp
  have S0 := (Safe.arv (EL := EL) X.al A (by decide))
  obtain ⟨cl, Ar, q1, S1, N1, H1, G1⟩ := A
  obtain ⟨T', h', Y, e', W, st⟩ := RoadKit.stC X.st X.hx X.hZ X.eT Ar (j := j) (inb_of S1 hj) (g := mkF m pc ls (.int x :: .int j :: .ref a :: rest)) rfl rfl (X.hd hd)
  exact Ends.go (fun _ q => st _ q) (k _ _ _ (X.wr Y e' W S0 hz hk) W (Arv.set Ar q1 S1 N1 H1 G1 (fits_nar_char _) W i hi hl))
theorem Wk.bastore (X : Wk co Z a0 EL own bytes maxL ret nm ws p l e R s m args below meth c vm0 T h locs cells slots) {a : Addr} {ka : ClassId} {z j x : Int32} {vs : List Value} {dv : Value} (A : Arv Z h a ka .byte z vs dv) (hj : ¬ j < 0 ∧ j < z) (i : Nat) (hi : j.toNatClampNeg = i) (hl : i < vs.length) (S : Safe Z EL vm0 h a) (hz : Z.heap.size ≤ a) (hk : a ∈ ws ∨ s.heap.size ≤ a) (hd : decode bytes pc = .ok (.bastore, 1)) (hp : pc + 1 = pc') (k : ∀ T h' L, Wk co Z a0 EL own bytes maxL ret nm ws p l e R s m args below meth c vm0 T h' L cells slots → Wr h h' a j.toNatClampNeg (.int (nar .byte x)) → Arv Z h' a ka .byte z (vs.set i (.int (nar .byte x))) dv → Ends p e below G (T.setTop (mkF m pc' ls rest))) : Ends p e below G (T.setTop (mkF m pc ls (.int x :: .int j :: .ref a :: rest))) := by
  subst hp
  have S0 := S
  obtain ⟨cl, Ar, q1, S1, N1, H1, G1⟩ := A
  obtain ⟨T', h', Y, e', W, st⟩ := RoadKit.stB X.st X.hx X.hZ X.eT Ar (j := j) (inb_of S1 hj) (g := mkF m pc ls (.int x :: .int j :: .ref a :: rest)) rfl rfl (X.hd hd)
  exact Ends.go (fun _ q => st _ q) (k _ _ _ (X.wr Y e' W S0 hz hk) W (Arv.set Ar q1 S1 N1 H1 G1 (fits_nar_byte _) W i hi hl))
theorem Wk.caload (X : Wk co Z a0 EL own bytes maxL ret nm ws p l e R s m args below meth c vm0 T h locs cells slots) {a : Addr} {ka : ClassId} {z j v : Int32} {vs : List Value} {dv : Value} (A : Arv Z h a ka .char z vs dv) (hj : ¬ j < 0 ∧ j < z) (hv : vs.getD j.toNatClampNeg dv = .int v) (hd : decode bytes pc = .ok (.caload, 1)) (hp : pc + 1 = pc') (k : Ends p e below G (T.setTop (mkF m pc' ls (.int v :: rest)))) : Ends p e below G (T.setTop (mkF m pc ls (.int j :: .ref a :: rest))) := by
  subst hp
  obtain ⟨cl, Ar, q1, S1, N1, H1, G1⟩ := A
  have hin := inb_of S1 hj
  exact Ends.go (fun t q => X.st.caload X.hx (j := j) (v := .int v) (by rw [X.eT]; exact Ar.1) (State.isArrayOf_alike X.al Ar.2.1) Ar.2.2 hin (H1.at hin hv) (g := mkF m pc ls (.int j :: .ref a :: rest)) rfl rfl (X.hd hd) t q) k
theorem Wk.baload (X : Wk co Z a0 EL own bytes maxL ret nm ws p l e R s m args below meth c vm0 T h locs cells slots) {a : Addr} {ka : ClassId} {z j v : Int32} {vs : List Value} {dv : Value} (A : Arv Z h a ka .byte z vs dv) (hj : ¬ j < 0 ∧ j < z) (hv : vs.getD j.toNatClampNeg dv = .int v) (hd : decode bytes pc = .ok (.baload, 1)) (hp : pc + 1 = pc') (k : Ends p e below G (T.setTop (mkF m pc' ls (.int v :: rest)))) : Ends p e below G (T.setTop (mkF m pc ls (.int j :: .ref a :: rest))) := by
  subst hp
  obtain ⟨cl, Ar, q1, S1, N1, H1, G1⟩ := A
  have hin := inb_of S1 hj
  exact Ends.go (fun t q => X.st.baloadBytes X.hx (j := j) (v := .int v) (by rw [X.eT]; exact Ar.1) (State.isArrayOf_alike X.al Ar.2.1) Ar.2.2 hin (H1.at hin hv) (g := mkF m pc ls (.int j :: .ref a :: rest)) rfl rfl (X.hd hd) t q) k
theorem Wk.alen (X : Wk co Z a0 EL own bytes maxL ret nm ws p l e R s m args below meth c vm0 T h locs cells slots) {a : Addr} {ka : ClassId} {ty : FieldType} {z : Int32} {vs : List Value} {dv : Value} (A : Arv Z h a ka ty z vs dv) (hd : decode bytes pc = .ok (.arraylength, 1)) (hp : pc + 1 = pc') (k : Ends p e below G (T.setTop (mkF m pc' ls (.int z :: rest)))) : Ends p e below G (T.setTop (mkF m pc ls (.ref a :: rest))) := by
  subst hp
  obtain ⟨cl, Ar, q1, S1, N1, H1, G1⟩ := A
  refine Ends.go (fun t q => X.st.arraylength X.hx (by rw [X.eT]; exact Ar.1) (State.isArrayOf_alike X.al Ar.2.1) (g := mkF m pc ls (.ref a :: rest)) rfl rfl (X.hd hd) t ?_) k
  rw [len_of S1 N1]; exact q
theorem Wk.castY (X : Wk co Z a0 EL own bytes maxL ret nm ws p l e R s m args below meth c vm0 T h locs cells slots) {K : String} {index : Nat} (w : (Cond.classLink own index K).before a0 Z = true) {a : Addr} (F : Ins Z h a K true) (hd : decode bytes pc = .ok (.checkcast index, 3)) (hp : pc + 3 = pc') (k : ∀ T, Wk co Z a0 EL own bytes maxL ret nm ws p l e R s m args below meth c vm0 T h locs cells slots → Ends p e below G (T.setTop (mkF m pc' ls (.ref a :: rest)))) : Ends p e below G (T.setTop (mkF m pc ls (.ref a :: rest))) := by
  subst hp
  obtain ⟨T', Y, e', st⟩ := RoadKit.castY X.st X.hx X.hZ X.hown w X.eT F (g := mkF m pc ls (.ref a :: rest)) rfl rfl (X.hd hd)
  exact Ends.go (fun _ q => st _ q) (k _ (X.same Y e'))
theorem Wk.instY (X : Wk co Z a0 EL own bytes maxL ret nm ws p l e R s m args below meth c vm0 T h locs cells slots) {K : String} {index : Nat} (w : (Cond.classLink own index K).before a0 Z = true) {a : Addr} (F : Ins Z h a K true) (hd : decode bytes pc = .ok (.instanceof index, 3)) (hp : pc + 3 = pc') (k : ∀ T, Wk co Z a0 EL own bytes maxL ret nm ws p l e R s m args below meth c vm0 T h locs cells slots → Ends p e below G (T.setTop (mkF m pc' ls (.int 1 :: rest)))) : Ends p e below G (T.setTop (mkF m pc ls (.ref a :: rest))) := by
  subst hp
  obtain ⟨T', Y, e', st⟩ := RoadKit.instY X.st X.hx X.hZ X.hown w X.eT F (g := mkF m pc ls (.ref a :: rest)) rfl rfl (X.hd hd)
  exact Ends.go (fun _ q => st _ q) (k _ (X.same Y e'))
theorem Wk.instNo (X : Wk co Z a0 EL own bytes maxL ret nm ws p l e R s m args below meth c vm0 T h locs cells slots) {K C : String} {index : Nat} (w : (Cond.classLink own index K).before a0 Z = true) {a : Addr} (E : Exa Z h a C) (F : ∃ c t, Z.vm.findClass C = some c ∧ Z.vm.findClass K = some t ∧ Z.vm.assignable c t = false) (hd : decode bytes pc = .ok (.instanceof index, 3)) (hp : pc + 3 = pc') (k : ∀ T, Wk co Z a0 EL own bytes maxL ret nm ws p l e R s m args below meth c vm0 T h locs cells slots → Ends p e below G (T.setTop (mkF m pc' ls (.int 0 :: rest)))) : Ends p e below G (T.setTop (mkF m pc ls (.ref a :: rest))) := by
  subst hp
  obtain ⟨T', Y, e', st⟩ := RoadKit.instNo X.st X.hx X.hZ X.hown w X.eT E F (g := mkF m pc ls (.ref a :: rest)) rfl rfl (X.hd hd)
  exact Ends.go (fun _ q => st _ q) (k _ (X.same Y e'))
theorem Wk.instNull (X : Wk co Z a0 EL own bytes maxL ret nm ws p l e R s m args below meth c vm0 T h locs cells slots) {index : Nat} (hd : decode bytes pc = .ok (.instanceof index, 3)) (hp : pc + 3 = pc') (k : Ends p e below G (T.setTop (mkF m pc' ls (.int 0 :: rest)))) : Ends p e below G (T.setTop (mkF m pc ls (.null :: rest))) := by
  subst hp
  exact Ends.go (fun t q => X.st.instanceofNull X.hx (g := mkF m pc ls (.null :: rest)) rfl rfl (X.hd hd) t q) k
theorem Wk.ldcI (X : Wk co Z a0 EL own bytes maxL ret nm ws p l e R s m args below meth c vm0 T h locs cells slots) {index : Nat} {v : Int32} (w : (Cond.constant own index v).before a0 Z = true) (hd : decode bytes pc = .ok (.ldc index, 2)) (hp : pc + 2 = pc') (k : Ends p e below G (T.setTop (mkF m pc' ls (.int v :: rest)))) : Ends p e below G (T.setTop (mkF m pc ls rest)) := by
  subst hp
  exact Ends.go (fun t q => X.st.ldcInt X.hx X.hown (mvT X.hZ w) (g := mkF m pc ls rest) rfl (X.hd hd) t q) k
theorem Wk.ldcJ (X : Wk co Z a0 EL own bytes maxL ret nm ws p l e R s m args below meth c vm0 T h locs cells slots) {index : Nat} {v : Int64} (w : (Cond.constantLong own index v).before a0 Z = true) (hd : decode bytes pc = .ok (.ldc2_w index, 3)) (hp : pc + 3 = pc') (k : Ends p e below G (T.setTop (mkF m pc' ls (.long v :: rest)))) : Ends p e below G (T.setTop (mkF m pc ls rest)) := by
  subst hp
  exact Ends.go (fun t q => X.st.ldc2Long X.hx X.hown (mvT X.hZ w) (g := mkF m pc ls rest) rfl (X.hd hd) t q) k
theorem Wk.initO (X : Wk co Z a0 EL own bytes maxL ret nm ws p l e R s m args below meth c vm0 T h locs cells slots) {idx : Nat} (w1 : (Cond.methodLink own idx Lib.objectInit).before a0 Z = true) (w2 : (Cond.instanceMethod Lib.objectInit).before a0 Z = true) (w3 : (Cond.code Lib.objectInit ⟨#[0xb1]⟩ 1 none).before a0 Z = true) {a : Addr} (hls : ls.size = maxL) (hd : decode bytes pc = .ok (.invokespecial idx, 3)) (hfr : 1 ≤ R.frames) (hlo : (rest.map fun v => v.category).sum + 12 ≤ R.locals) (hp : pc + 3 = pc') (k : ∀ T, Wk co Z a0 EL own bytes maxL ret nm ws p l e R s m args below meth c vm0 T h locs cells slots → Ends p e below G (T.setTop (mkF m pc' ls rest))) : Ends p e below G (T.setTop (mkF m pc ls (.ref a :: rest))) := by
  subst hp
  obtain ⟨T', Y, e', st⟩ := RoadKit.initO X.st X.hx X.hZ X.hown w1 w2 w3 X.eT (g := mkF m pc ls (.ref a :: rest)) rfl (hls.trans X.hml.symm) rfl (X.hd hd) hfr (W := (rest.map fun v => v.category).sum) (by show 2 * 0 + _ ≤ _; rw [Nat.mul_zero, Nat.zero_add]; exact Nat.le_refl _) (by omega)
  exact Ends.go (fun _ q => st _ q) (k _ (X.same Y e'))
/-- ldc of a String constant of EL, read -/
theorem Wk.ldcS (X : Wk true Z a0 EL own bytes maxL ret nm ws p l e R s m args below meth c vm0 T h locs cells slots) {index : Nat} {text : String} (w : (Cond.stringLink own index text).before a0 Z = true) (wS : ∀ a ∈ Bundle.stringAtoms, a.before a0 Z = true) (hmem : (own, index) ∈ EL) {vs : List Value} {z : Int32} (ht : (∀ c ∈ text.toList, c.toNat < 256) ∧ text.toList.map (fun c => Value.int (Jvm.Lit.byteI c.toNat.toUInt16)) = vs) (hz : ¬ z < 0) (hl : z.toNatClampNeg = vs.length) (hd : decode bytes pc = .ok (.ldc index, 2)) (n : Nat) (hn : 4 * text.toList.length ≤ n) (hbig : n ≤ 536870912) (hc : cells + 2 ≤ R.cells) (hl' : slots + (n + 4) ≤ R.slots) (hp : pc + 2 = pc') (k : ∀ (T : State) (vm : Vm) (h' : Heap) (a b : Addr) (ka : ClassId), Ext h h' → CHr Z EL vm0 h vm h' → Exa Z h' a "java/lang/String" → Fld Z h' a "java/lang/String" "coder" "B" (.int 0) → Fld Z h' a "java/lang/String" "value" "[B" (.ref b) → Arv Z h' b ka .byte z vs (.int 0) → a < h'.size → b < h'.size → (∀ x, Safe Z EL vm h' x → x ≠ a ∧ x ≠ b) → Wk true Z a0 EL own bytes maxL ret nm ws p l e R s m args below meth c vm T h' locs (cells + 2) (slots + (n + 4)) → Ends p e below G (T.setTop (mkF m pc' ls (.ref a :: rest)))) : Ends p e below G (T.setTop (mkF m pc ls rest)) := by
  subst hp
  obtain ⟨k0, k1, k2⟩ := X.since
  obtain ⟨a, T', h', kk, b, ka, Y, rfl, E, hS, hk, hW, ho, x1, x2, x3, x4, x5, x6, hC, -, hsf, st⟩ := RoadKit.ldcCH X.st X.hx X.hZ X.hown w wS X.eT k1 k2 X.ew hmem X.H ht hz hl (g := mkF m pc ls rest) rfl (X.hd hd) hn hbig hc hl'
  exact Ends.go (fun _ q => st _ q) (k _ _ _ _ _ _ E hC x1 x2 x3 x4 x5 x6 hsf ⟨Y, rfl, ⟨_, hS, hk⟩, fun q => (by cases q), hW, ho, X.ch.trans hC, X.ew, X.2.2.2.2.2.2.2.2.1, ⟨Nat.le_trans X.old.1 E.1, fun a cl q => E.2 _ _ (X.old.2 _ _ q)⟩, X.fr, X.kp.ext E⟩)
/-- ldc of any String constant, opaque -/
theorem Wk.ldcO (X : Wk true Z a0 EL own bytes maxL ret nm ws p l e R s m args below meth c vm0 T h locs cells slots) {index : Nat} {text : String} (w : (Cond.stringLink own index text).before a0 Z = true) (wS : ∀ a ∈ Bundle.stringAtoms, a.before a0 Z = true) (hd : decode bytes pc = .ok (.ldc index, 2)) (n : Nat) (hn : 4 * text.toList.length ≤ n) (hbig : n ≤ 536870912) (hc : cells + 2 ≤ R.cells) (hl' : slots + (n + 4) ≤ R.slots) (hp : pc + 2 = pc') (k : ∀ (T : State) (vm : Vm) (h' : Heap) (a : Addr), Ext h h' → CHr Z EL vm0 h vm h' → Wk true Z a0 EL own bytes maxL ret nm ws p l e R s m args below meth c vm T h' locs (cells + 2) (slots + (n + 4)) → Ends p e below G (T.setTop (mkF m pc' ls (.ref a :: rest)))) : Ends p e below G (T.setTop (mkF m pc ls rest)) := by
  subst hp
  obtain ⟨k0, k1, k2⟩ := X.since
  obtain ⟨a, T', h', kk, Y, rfl, E, hS, hk, hW, ho, hC, -, st⟩ := RoadKit.ldcOH X.st X.hx X.hZ X.hown w wS X.eT k1 k2 X.ew X.H (g := mkF m pc ls rest) rfl (X.hd hd) hn hbig hc hl'
  exact Ends.go (fun _ q => st _ q) (k _ _ _ _ E hC ⟨Y, rfl, ⟨_, hS, hk⟩, fun q => (by cases q), hW, ho, X.ch.trans hC, X.ew, X.2.2.2.2.2.2.2.2.1, ⟨Nat.le_trans X.old.1 E.1, fun a cl q => E.2 _ _ (X.old.2 _ _ q)⟩, X.fr, X.kp.ext E⟩)
end Walk
/-- what a method's law says; narrow -/
def MN (l : Launch) (Z : State) (y : MethodName) (bytes : ByteArray) (maxL : Nat) (ret : Option FieldType) (xs : List Jvm.Cond) (rm : Room) (as' : Array Value) (h : Heap) (ws : List Addr) (Q : Option Value → Heap → Prop) : Prop :=
  MetFree l y (head1 (Cond.code y bytes maxL ret :: xs) rm) (fun a U => a = as' ∧ Z.Warmed39 U.vm ∧ U.heap = h) (fun _ _ _ _ _ => True) (fun _ U o U' => ∃ v L, o = .returned v ∧ (Q v U'.heap ∧ Fr Z.heap.size L ∧ Keep h U'.heap ws ∧ Ext Z.heap U'.heap) ∧ FrameEnd U o U' L rm.cells rm.slots)
/-- .. of one that may intern -/
def MCc (l : Launch) (Z : State) (EL : List (String × Nat)) (y : MethodName) (bytes : ByteArray) (maxL : Nat) (ret : Option FieldType) (xs : List Jvm.Cond) (rm : Room) (as' : Array Value) (h : Heap) (ws : List Addr) (Q : Option Value → Heap → Prop) : Prop :=
  MetFree l y (head1 (Cond.code y bytes maxL ret :: xs) rm) (fun a U => a = as' ∧ Z.Warmed39 U.vm ∧ U.heap = h ∧ CHv Z EL U.vm h) (fun _ _ _ _ _ => True) (fun _ U o U' => ∃ v L, o = .returned v ∧ (Q v U'.heap ∧ Fr Z.heap.size L ∧ Keep h U'.heap ws ∧ Ext Z.heap U'.heap) ∧ CHr Z EL U.vm U.heap U'.vm U'.heap ∧ ReturnedEndW U o U' L rm.cells rm.slots)
def GN (Z : State) (ws : List Addr) (Q : Option Value → Heap → Prop) (rm : Room) (s : State) (o : Outcome) (U' : State) : Prop :=
  ∃ v L, o = .returned v ∧ (Q v U'.heap ∧ Fr Z.heap.size L ∧ Keep s.heap U'.heap ws ∧ Ext Z.heap U'.heap) ∧ FrameEnd s o U' L rm.cells rm.slots
def GC (Z : State) (EL : List (String × Nat)) (ws : List Addr) (Q : Option Value → Heap → Prop) (rm : Room) (s : State) (o : Outcome) (U' : State) : Prop :=
  ∃ v L, o = .returned v ∧ (Q v U'.heap ∧ Fr Z.heap.size L ∧ Keep s.heap U'.heap ws ∧ Ext Z.heap U'.heap) ∧ CHr Z EL s.vm s.heap U'.vm U'.heap ∧ ReturnedEndW s o U' L rm.cells rm.slots
abbrev RV (Q : Value → Heap → Prop) : Option Value → Heap → Prop := fun v h => ∃ w, v = some w ∧ Q w h
abbrev RU (Q : Heap → Prop) : Option Value → Heap → Prop := fun v h => v = none ∧ Q h
abbrev RO (h0 : Heap) : Option Value → Heap → Prop := fun v h => v = none ∧ h = h0
abbrev RP (h0 : Heap) (Q : Value → Prop) : Option Value → Heap → Prop := fun v h => ∃ w, v = some w ∧ h = h0 ∧ Q w
theorem MN.mk {l : Launch} {Z : State} {a0 : Array Value} {y : MethodName} {bytes : ByteArray} {maxL : Nat} {ret : Option FieldType} {xs : List Jvm.Cond} {rm : Room} {as' : Array Value} {h : Heap} {ws : List Addr} {Q : Option Value → Heap → Prop} {ls0 : Array Slot} {own nm : String} (ho : y.cls = own) (hnm : y.name = nm) (pn : plainFor y = true) (O : Ext Z.heap h) (ef : ∀ m, entryFrame m as' maxL = mkF m 0 ls0 [])
    (body : ∀ (p : Program) (e : Env) (s : State) (m : MethodId) (below : List Frame) (meth : Method) (c : Code) (T : State), s.heap = h → Wk false Z a0 [] own bytes maxL ret nm ws p l e rm s m as' below meth c s.vm T h [] 0 0 → Ends p e below (GN Z ws Q rm s) (T.setTop (mkF m 0 ls0 []))) : MN l Z y bytes maxL ret xs rm as' h ws Q := by
  subst ho hnm
  refine MetFree.of_bodySF pn hisR ?_
  intro p e s m args below meth c s₁ Bd hml hP hK
  obtain ⟨rfl, hZ, rfl⟩ := hP
  have e0 : s₁.heap = s.heap := by rw [Bd.state]; rfl
  obtain ⟨s₂, o, h1, h2, h3, v, L, h4, h5, h6⟩ := body p e s m below meth c s₁ rfl ⟨Stand.of_body Bd, e0, ⟨0, (State.WarmedH.refl s).since _, Nat.zero_le _⟩, fun _ => rfl, hZ, findClass_of_methodNamed Bd.named, chrE (Nat.le_refl _), EW.nil, ⟨Bd.exec, Bd.bytes, hml, Bd.returns, (name_of_methodNamed Bd.named Bd.method).1, Bd.notSynchronized⟩, O, Fr.nil _, Keep.refl _ _⟩
  exact ⟨s₂, o, castTop (ef m) h1, h2, h3, v, L, h4, h5, h6⟩
theorem MCc.mk {l : Launch} {Z : State} {a0 : Array Value} {EL : List (String × Nat)} {y : MethodName} {bytes : ByteArray} {maxL : Nat} {ret : Option FieldType} {xs : List Jvm.Cond} {rm : Room} {as' : Array Value} {h : Heap} {ws : List Addr} {Q : Option Value → Heap → Prop} {ls0 : Array Slot} {own nm : String} (ho : y.cls = own) (hnm : y.name = nm) (pn : plainFor y = true) (O : Ext Z.heap h) (ew : EW Z a0 EL) (ef : ∀ m, entryFrame m as' maxL = mkF m 0 ls0 [])
    (body : ∀ (p : Program) (e : Env) (s : State) (m : MethodId) (below : List Frame) (meth : Method) (c : Code) (T : State), s.heap = h → Wk true Z a0 EL own bytes maxL ret nm ws p l e rm s m as' below meth c s.vm T h [] 0 0 → Ends p e below (GC Z EL ws Q rm s) (T.setTop (mkF m 0 ls0 []))) : MCc l Z EL y bytes maxL ret xs rm as' h ws Q := by
  subst ho hnm
  refine MetFree.of_bodySF pn hisR ?_
  intro p e s m args below meth c s₁ Bd hml hP hK
  obtain ⟨rfl, hZ, rfl, hC⟩ := hP
  have e0 : s₁.heap = s.heap := by rw [Bd.state]; rfl
  obtain ⟨s₂, o, h1, h2, h3, v, L, h4, h5, h6⟩ := body p e s m below meth c s₁ rfl ⟨Stand.of_body Bd, e0, ⟨0, (State.WarmedH.refl s).since _, Nat.zero_le _⟩, fun _ => rfl, hZ, findClass_of_methodNamed Bd.named, CHr.refl hC, ew, ⟨Bd.exec, Bd.bytes, hml, Bd.returns, (name_of_methodNamed Bd.named Bd.method).1, Bd.notSynchronized⟩, O, Fr.nil _, Keep.refl _ _⟩
  exact ⟨s₂, o, castTop (ef m) h1, h2, h3, v, L, h4, h5, h6⟩
section Ends2
variable {co : Bool} {Z : State} {a0 : Array Value} {EL : List (String × Nat)} {own : String} {bytes : ByteArray} {maxL : Nat} {ret : Option FieldType} {nm : String} {ws : List Addr} {p : Program} {l : Launch} {e : Env} {R : Room} {s : State} {m : MethodId} {args : Array Value} {below : List Frame} {meth : Method} {c : Code} {vm0 : Vm} {T : State} {h : Heap} {locs : List Loc} {cells slots : Nat} {G : Outcome → State → Prop} {pc pc' : Nat} {ls : Array Slot} {rest : List Value} {Q : Option Value → Heap → Prop}
theorem Wk.retN (X : Wk false Z a0 [] own bytes maxL ret nm ws p l e R s m args below meth c vm0 T h locs cells slots) {t : FieldType} {w : Value} {i : Instr} (hR : ret = some t) (hn : narrow t w = w) (hi : (i = .ireturn ∧ (t = .int ∨ t = .boolean ∨ t = .byte ∨ t = .char ∨ t = .short) ∧ ∃ z, w = .int z) ∨ (i = .lreturn ∧ t = .long ∧ ∃ z, w = .long z) ∨ (i = .dreturn ∧ t = .double ∧ ∃ z, w = .double z) ∨ (i = .freturn ∧ t = .float ∧ ∃ z, w = .float z) ∨ (i = .areturn ∧ t.isReference = true ∧ w.isRef = true)) (hd : decode bytes pc = .ok (i, 1)) (hc : cells ≤ R.cells) (hl : slots ≤ R.slots) (q : Q (some w) h) : Ends p e below (GN Z ws Q R s) (T.setTop (mkF m pc ls (w :: rest))) := by
  obtain ⟨fs, hr, hrun, hended, hW, hsame⟩ := X.st.leave (v := some w) (fun q => by rw [X.hret, hR] at q; cases q) X.hlk
  have hs : (s.setVm vm0) = s := by rw [X.nr rfl]; rfl
  rw [hs] at hW hsame
  exact ⟨_, _, retOut X.st X.hx (X.hret.trans hR) hn hi (X.hd hd) hr, hrun, hended, _, _, rfl, ⟨by rw [show (T.setFrames fs).heap = h from X.eT]; exact q, X.fr, by rw [show (T.setFrames fs).heap = h from X.eT]; exact X.kp, by rw [show (T.setFrames fs).heap = h from X.eT]; exact X.old⟩, ⟨_, rfl⟩, hW, hsame.mono hc hl⟩
theorem Wk.retAN {t : FieldType} (X : Wk false Z a0 [] own bytes maxL (some t) nm ws p l e R s m args below meth c vm0 T h locs cells slots) {w : Value} (ht : t.isReference = true) (hw : w.isRef = true) (hd : decode bytes pc = .ok (.areturn, 1)) (hc : cells ≤ R.cells) (hl : slots ≤ R.slots) (q : Q (some w) h) : Ends p e below (GN Z ws Q R s) (T.setTop (mkF m pc ls (w :: rest))) :=
  X.retN rfl (by cases t <;> first | (cases ht; done) | (rcases ref_cases hw with rfl | ⟨z, rfl⟩ <;> rfl)) (Or.inr (Or.inr (Or.inr (Or.inr ⟨rfl, ht, hw⟩)))) hd hc hl q
theorem Wk.retIN {t : FieldType} (X : Wk false Z a0 [] own bytes maxL (some t) nm ws p l e R s m args below meth c vm0 T h locs cells slots) {z : Int32} (ht : t = .int ∨ t = .boolean ∨ t = .byte ∨ t = .char ∨ t = .short) (hn : narrow t (.int z) = .int z) (hd : decode bytes pc = .ok (.ireturn, 1)) (hc : cells ≤ R.cells) (hl : slots ≤ R.slots) (q : Q (some (.int z)) h) : Ends p e below (GN Z ws Q R s) (T.setTop (mkF m pc ls (.int z :: rest))) :=
  X.retN rfl hn (Or.inl ⟨rfl, ht, z, rfl⟩) hd hc hl q
theorem Wk.retUN (X : Wk false Z a0 [] own bytes maxL none nm ws p l e R s m args below meth c vm0 T h locs cells slots) (hd : decode bytes pc = .ok (.return_, 1)) (hc : cells ≤ R.cells) (hl : slots ≤ R.slots) (q : Q none h) : Ends p e below (GN Z ws Q R s) (T.setTop (mkF m pc ls [])) := by
  obtain ⟨fs, hr, hrun, hended, hW, hsame⟩ := X.st.leave (v := none) (fun _ => rfl) X.hlk
  have hs : (s.setVm vm0) = s := by rw [X.nr rfl]; rfl
  rw [hs] at hW hsame
  exact ⟨_, _, X.st.returnOut X.hx X.hret (X.hd hd) hr, hrun, hended, _, _, rfl, ⟨by rw [show (T.setFrames fs).heap = h from X.eT]; exact q, X.fr, by rw [show (T.setFrames fs).heap = h from X.eT]; exact X.kp, by rw [show (T.setFrames fs).heap = h from X.eT]; exact X.old⟩, ⟨_, rfl⟩, hW, hsame.mono hc hl⟩
theorem Wk.retC (X : Wk true Z a0 EL own bytes maxL ret nm ws p l e R s m args below meth c vm0 T h locs cells slots) {t : FieldType} {w : Value} {i : Instr} (hR : ret = some t) (hn : narrow t w = w) (hi : (i = .ireturn ∧ (t = .int ∨ t = .boolean ∨ t = .byte ∨ t = .char ∨ t = .short) ∧ ∃ z, w = .int z) ∨ (i = .lreturn ∧ t = .long ∧ ∃ z, w = .long z) ∨ (i = .dreturn ∧ t = .double ∧ ∃ z, w = .double z) ∨ (i = .freturn ∧ t = .float ∧ ∃ z, w = .float z) ∨ (i = .areturn ∧ t.isReference = true ∧ w.isRef = true)) (hd : decode bytes pc = .ok (i, 1)) (hc : cells ≤ R.cells) (hl : slots ≤ R.slots) (q : Q (some w) h) : Ends p e below (GC Z EL ws Q R s) (T.setTop (mkF m pc ls (w :: rest))) := by
  obtain ⟨k0, k1, k2⟩ := X.since
  obtain ⟨fs, hr, hrun, hended, hE⟩ := X.st.leaveW k1 (by rw [X.eT]; exact k2) (v := some w) (fun q => by rw [X.hret, hR] at q; cases q) X.hlk
  obtain ⟨e1, e2, e3, e4⟩ := hE
  have c1 := CHv.at X.st X.hZ X.ew X.H
  exact ⟨_, _, retOut X.st X.hx (X.hret.trans hR) hn hi (X.hd hd) hr, hrun, hended, _, _, rfl, ⟨by rw [show (T.setFrames fs).heap = h from X.eT]; exact q, X.fr, by rw [show (T.setFrames fs).heap = h from X.eT]; exact X.kp, by rw [show (T.setFrames fs).heap = h from X.eT]; exact X.old⟩, by rw [show (T.setFrames fs).heap = h from X.eT]; exact X.ch.trans c1, e1, e2, e3, e4.mono hc hl⟩
theorem Wk.retAC {t : FieldType} (X : Wk true Z a0 EL own bytes maxL (some t) nm ws p l e R s m args below meth c vm0 T h locs cells slots) {w : Value} (ht : t.isReference = true) (hw : w.isRef = true) (hd : decode bytes pc = .ok (.areturn, 1)) (hc : cells ≤ R.cells) (hl : slots ≤ R.slots) (q : Q (some w) h) : Ends p e below (GC Z EL ws Q R s) (T.setTop (mkF m pc ls (w :: rest))) :=
  X.retC rfl (by cases t <;> first | (cases ht; done) | (rcases ref_cases hw with rfl | ⟨z, rfl⟩ <;> rfl)) (Or.inr (Or.inr (Or.inr (Or.inr ⟨rfl, ht, hw⟩)))) hd hc hl q
theorem Wk.retIC {t : FieldType} (X : Wk true Z a0 EL own bytes maxL (some t) nm ws p l e R s m args below meth c vm0 T h locs cells slots) {z : Int32} (ht : t = .int ∨ t = .boolean ∨ t = .byte ∨ t = .char ∨ t = .short) (hn : narrow t (.int z) = .int z) (hd : decode bytes pc = .ok (.ireturn, 1)) (hc : cells ≤ R.cells) (hl : slots ≤ R.slots) (q : Q (some (.int z)) h) : Ends p e below (GC Z EL ws Q R s) (T.setTop (mkF m pc ls (.int z :: rest))) :=
  X.retC rfl hn (Or.inl ⟨rfl, ht, z, rfl⟩) hd hc hl q
theorem Wk.retUC (X : Wk true Z a0 EL own bytes maxL none nm ws p l e R s m args below meth c vm0 T h locs cells slots) (hd : decode bytes pc = .ok (.return_, 1)) (hc : cells ≤ R.cells) (hl : slots ≤ R.slots) (q : Q none h) : Ends p e below (GC Z EL ws Q R s) (T.setTop (mkF m pc ls [])) := by
  obtain ⟨k0, k1, k2⟩ := X.since
  obtain ⟨fs, hr, hrun, hended, hE⟩ := X.st.leaveW k1 (by rw [X.eT]; exact k2) (v := none) (fun _ => rfl) X.hlk
  obtain ⟨e1, e2, e3, e4⟩ := hE
  have c1 := CHv.at X.st X.hZ X.ew X.H
  exact ⟨_, _, X.st.returnOut X.hx X.hret (X.hd hd) hr, hrun, hended, _, _, rfl, ⟨by rw [show (T.setFrames fs).heap = h from X.eT]; exact q, X.fr, by rw [show (T.setFrames fs).heap = h from X.eT]; exact X.kp, by rw [show (T.setFrames fs).heap = h from X.eT]; exact X.old⟩, by rw [show (T.setFrames fs).heap = h from X.eT]; exact X.ch.trans c1, e1, e2, e3, e4.mono hc hl⟩
/-- a place where y is called: the arguments a, rest what lies under them -/
def Site (p : Program) (l : Launch) (e : Env) (R : Room) (s : State) (m : MethodId) (args : Array Value) (below : List Frame) (meth : Method) (c : Code) (T : State) (locs : List Loc) (cells slots : Nat) (g : JFrame) (len : Nat) (y : MethodName) (a : Array Value) (rest : List Value) : Prop :=
  (∀ {W : Nat} {Pre : Pt → Array Value → Prop} {Post : Pt → Array Value → Option Value → Pt → Prop}, Back l R p e below s args y len W Pre Post → 2 * g.monitorRoom + (rest.map fun v => v.category).sum ≤ W → (∀ vm₁, s.WarmedH vm₁ → Pre ⟨T.setVm vm₁, locs, cells, slots⟩ a) →
    ∃ (v : Option Value) (vm₁ : Vm) (B : Pt), s.WarmedH vm₁ ∧ Stand p l e R s m args below meth c B.U B.locs B.cells B.slots ∧ Post ⟨T.setVm vm₁, locs, cells, slots⟩ a v B ∧ ∀ t, Steps p.tables e below (B.U.setTop { g with pc := g.pc + len, stack := v.toList ++ rest }) t → Steps p.tables e below (T.setTop g) t) ∧
  (∀ {W : Nat} {Pre : Pt → Array Value → Prop} {Post : Pt → Array Value → Option Value → Pt → Prop}, BackS l R p e below s args y len W Pre Post → 2 * g.monitorRoom + (rest.map fun v => v.category).sum ≤ W → (∀ vm₁, s.WarmedH vm₁ → Pre ⟨T.setVm vm₁, locs, cells, slots⟩ a) →
    ∃ (v : Option Value) (vm₁ : Vm) (B : Pt), s.WarmedH vm₁ ∧ Stand p l e R (s.setVm B.U.vm) m args below meth c B.U B.locs B.cells B.slots ∧ s.Since B.U.vm B.U.heap.size ∧ T.heap.size ≤ B.U.heap.size ∧ Post ⟨T.setVm vm₁, locs, cells, slots⟩ a v B ∧ ∀ t, Steps p.tables e below (B.U.setTop { g with pc := g.pc + len, stack := v.toList ++ rest }) t → Steps p.tables e below (T.setTop g) t)
theorem Wk.sStatic (X : Wk co Z a0 EL own bytes maxL ret nm ws p l e R s m args below meth c vm0 T h locs cells slots) {index : Nat} {y : MethodName} {ybytes : ByteArray} {ymaxL : Nat} {yret : Option FieldType} (w1 : (Cond.methodLink own index y).before a0 Z = true) (w2 : (Cond.static y).before a0 Z = true) (w3 : (Cond.initialized y.cls).before a0 Z = true) (w4 : (Cond.code y ybytes ymaxL yret).before a0 Z = true) (hy : y.cls ≠ "java/lang/invoke/MethodHandle" ∧ y.cls ≠ "java/lang/invoke/VarHandle") (hls : ls.size = maxL) {ps : List FieldType} {r : Option FieldType} (pd : parseMethodDescriptor y.desc = some ⟨ps, r⟩) (argsL : List Value) {st : List Value} (hlen : argsL.length = ps.length) (hst : st = argsL.reverse ++ rest) (hd : decode bytes pc = .ok (.invokestatic index, 3)) : Site p l e R (s.setVm vm0) m args below meth c T locs cells slots (mkF m pc ls st) 3 y argsL.toArray rest := by
  refine ⟨fun hK hW hpre => ?_, fun hK hW hpre => ?_⟩
  · exact Jvm.LawKit.callS X.st X.hx X.hown (mvT X.hZ w1) (mvT X.hZ w2) (mvT X.hZ w3) (mvT X.hZ w4) hy hK (g := mkF m pc ls st) rfl (hls.trans X.hml.symm) (lenOf pd hlen) hst hW (X.hd hd) hpre
  · obtain ⟨v, vm₁, B, h1, h2, h3, h4, h5, h6⟩ := callSS X.st X.hx X.hown (mvT X.hZ w1) (mvT X.hZ w2) (mvT X.hZ w3) (mvT X.hZ w4) hy hK (g := mkF m pc ls st) rfl (hls.trans X.hml.symm) (lenOf pd hlen) hst hW (X.hd hd) hpre
    exact ⟨v, vm₁, B, h1, h2, h3, h4, h5, fun t q => h6.trans q⟩
theorem Wk.sSpecial (X : Wk co Z a0 EL own bytes maxL ret nm ws p l e R s m args below meth c vm0 T h locs cells slots) {index : Nat} {y : MethodName} {ybytes : ByteArray} {ymaxL : Nat} (hy1 : y.name = "<init>") (w1 : (Cond.methodLink own index y).before a0 Z = true) (w2 : (Cond.instanceMethod y).before a0 Z = true) (w4 : (Cond.code y ybytes ymaxL none).before a0 Z = true) (hy : y.cls ≠ "java/lang/invoke/MethodHandle" ∧ y.cls ≠ "java/lang/invoke/VarHandle") (hls : ls.size = maxL) {ps : List FieldType} {r : Option FieldType} (pd : parseMethodDescriptor y.desc = some ⟨ps, r⟩) {a : Addr} (argsL : List Value) {st : List Value} (hlen : argsL.length = ps.length) (hst : st = argsL.reverse ++ .ref a :: rest) (hd : decode bytes pc = .ok (.invokespecial index, 3)) : Site p l e R (s.setVm vm0) m args below meth c T locs cells slots (mkF m pc ls st) 3 y (.ref a :: argsL).toArray rest := by
  refine ⟨fun hK hW hpre => ?_, fun hK hW hpre => ?_⟩
  · obtain ⟨v, vm₁, B, h1, h2, h5, h6⟩ := X.st.specialBack X.hx hy1 X.hown (mvT X.hZ w1) (mvT X.hZ w2) (mvT X.hZ w4) hy hK (g := mkF m pc ls st) rfl (hls.trans X.hml.symm) (Steps.refl _) (lenOf pd hlen) hst hW (X.hd hd) hpre
    exact ⟨v, vm₁, B, h1, h2, h5, fun t q => h6.trans q⟩
  · obtain ⟨v, vm₁, B, h1, h2, h3, h4, h5, h6⟩ := X.st.specialBackS X.hx hy1 X.hown (mvT X.hZ w1) (mvT X.hZ w2) (mvT X.hZ w4) hy hK (g := mkF m pc ls st) rfl (hls.trans X.hml.symm) (Steps.refl _) (lenOf pd hlen) hst hW (X.hd hd) hpre
    exact ⟨v, vm₁, B, h1, h2, h3, h4, h5, fun t q => h6.trans q⟩
theorem Wk.nf (X : Wk co Z a0 EL own bytes maxL ret nm ws p l e R s m args below meth c vm0 T h locs cells slots) {C : String} {y y' : MethodName} (w : (Cond.selects C y' y').before a0 Z = true) (hc : y'.cls = y.cls) : NotFace (s.setVm vm0) y := fun r0 h0 => by
  obtain ⟨c2, r2, m2, -, -, q3, -, kP, hkP, hkPi⟩ := Cond.selects_spec (mvT X.hZ w (args := #[]))
  have e1 := findClass_of_methodNamed h0
  have e2 := findClass_of_methodNamed q3
  rw [hc] at e2
  have e3 : m2.cls = r0.cls := Option.some.inj (e2.symm.trans e1)
  rw [e3] at hkP
  exact ⟨kP, hkP, hkPi⟩
theorem Wk.sVirtual (X : Wk co Z a0 EL own bytes maxL ret nm ws p l e R s m args below meth c vm0 T h locs cells slots) {index : Nat} {C : String} {y z : MethodName} (w1 : (Cond.methodLink own index y).before a0 Z = true) (w2 : (Cond.declares y).before a0 Z = true) (w3 : (Cond.selects C y z).before a0 Z = true) (w4 : (Cond.instanceMethod z).before a0 Z = true) (hy : y.cls ≠ "java/lang/invoke/MethodHandle" ∧ y.cls ≠ "java/lang/invoke/VarHandle") (hls : ls.size = maxL) {ps : List FieldType} {r : Option FieldType} (pd : parseMethodDescriptor y.desc = some ⟨ps, r⟩) {a : Addr} (E : Exa Z h a C) (argsL : List Value) {st : List Value} (hlen : argsL.length = ps.length) (hst : st = argsL.reverse ++ .ref a :: rest) (hd : decode bytes pc = .ok (.invokevirtual index, 3)) (nf : NotFace (s.setVm vm0) y) : Site p l e R (s.setVm vm0) m args below meth c T locs cells slots (mkF m pc ls st) 3 z (.ref a :: argsL).toArray rest := by
  obtain ⟨cq, kq, qa, qb, qc⟩ := isOf X.hZ X.eT E
  refine ⟨fun hK hW hpre => ?_, fun hK hW hpre => ?_⟩
  · obtain ⟨v, vm₁, B, h1, h2, h5, h6⟩ := X.st.virtualBack X.hx X.hown (mvT X.hZ w1) (mvT X.hZ w2) nf (mvT X.hZ w3) (mvT X.hZ w4) hy hK qa qc (g := mkF m pc ls st) rfl (hls.trans X.hml.symm) (Steps.refl _) (lenOf pd hlen) hst hW (X.hd hd) hpre
    exact ⟨v, vm₁, B, h1, h2, h5, fun t q => h6.trans q⟩
  · obtain ⟨v, vm₁, B, h1, h2, h3, h4, h5, h6⟩ := X.st.virtualBackS X.hx X.hown (mvT X.hZ w1) (mvT X.hZ w2) nf (mvT X.hZ w3) (mvT X.hZ w4) hy hK qa qc (g := mkF m pc ls st) rfl (hls.trans X.hml.symm) (Steps.refl _) (lenOf pd hlen) hst hW (X.hd hd) hpre
    exact ⟨v, vm₁, B, h1, h2, h3, h4, h5, fun t q => h6.trans q⟩
theorem Wk.callV (X : Wk co Z a0 EL own bytes maxL ret nm ws p l e R s m args below meth c vm0 T h locs cells slots) {len : Nat} {y : MethodName} {ybytes : ByteArray} {ymaxL : Nat} {yret : Option FieldType} {rm : Room} {a : Array Value} {wc : List Addr} {Q : Value → Heap → Prop} {st : List Value} (S : Site p l e R (s.setVm vm0) m args below meth c T locs cells slots (mkF m pc ls st) len y a rest) (M : MN l Z y ybytes ymaxL yret [] rm a h wc (RV Q)) (w4 : (Cond.code y ybytes ymaxL yret).before a0 Z = true) (w3 : (Cond.initialized y.cls).before a0 Z = true) (hf : rm.frames + 1 ≤ R.frames) (hl : (rest.map fun v => v.category).sum + (ymaxL + 11) + rm.locals ≤ R.locals) (hc : cells + rm.cells ≤ R.cells) (hs : slots + rm.slots ≤ R.slots) (Sf : ∀ x ∈ wc, Safe Z EL vm0 h x) (hz : ∀ x ∈ wc, Z.heap.size ≤ x) (hk : ∀ x ∈ wc, x ∈ ws ∨ s.heap.size ≤ x) (hp : pc + len = pc') (k : ∀ T h' L (v : Value), Wk co Z a0 EL own bytes maxL ret nm ws p l e R s m args below meth c vm0 T h' L (cells + rm.cells) (slots + rm.slots) → Keep h h' wc → Q v h' → Ends p e below G (T.setTop (mkF m pc' ls (v :: rest)))) : Ends p e below G (T.setTop (mkF m pc ls st)) := by
  subst hp
  obtain ⟨v, vm₁, ⟨T', L', k', n'⟩, h1, Y, ⟨Lc, ⟨⟨w, rfl, q1⟩, q2, q3, q4⟩, l1, l2, l3⟩, st1⟩ := S.1 (backOf (Q := fun v h' L => (RV Q) v h' ∧ Fr Z.heap.size L ∧ Keep h h' wc ∧ Ext Z.heap h') (W := (rest.map fun v => v.category).sum) M X.hZ w4 w3 hf hl) (by show 2 * 0 + _ ≤ _; rw [Nat.mul_zero, Nat.zero_add]; exact Nat.le_refl _) (fun vm₁ _ => ⟨rfl, X.eT, hc, hs⟩)
  dsimp only [Pt.U, Pt.locs, Pt.cells, Pt.slots] at Y l1 l2 l3 st1 q2 q3 q4 q1
  subst l1 l2 l3
  exact Ends.go st1 (k _ _ _ _ (X.keep Y rfl q3 Sf q2 hz hk) q3 q1)
theorem Wk.callU (X : Wk co Z a0 EL own bytes maxL ret nm ws p l e R s m args below meth c vm0 T h locs cells slots) {len : Nat} {y : MethodName} {ybytes : ByteArray} {ymaxL : Nat} {yret : Option FieldType} {rm : Room} {a : Array Value} {wc : List Addr} {Q : Heap → Prop} {st : List Value} (S : Site p l e R (s.setVm vm0) m args below meth c T locs cells slots (mkF m pc ls st) len y a rest) (M : MN l Z y ybytes ymaxL yret [] rm a h wc (RU Q)) (w4 : (Cond.code y ybytes ymaxL yret).before a0 Z = true) (w3 : (Cond.initialized y.cls).before a0 Z = true) (hf : rm.frames + 1 ≤ R.frames) (hl : (rest.map fun v => v.category).sum + (ymaxL + 11) + rm.locals ≤ R.locals) (hc : cells + rm.cells ≤ R.cells) (hs : slots + rm.slots ≤ R.slots) (Sf : ∀ x ∈ wc, Safe Z EL vm0 h x) (hz : ∀ x ∈ wc, Z.heap.size ≤ x) (hk : ∀ x ∈ wc, x ∈ ws ∨ s.heap.size ≤ x) (hp : pc + len = pc') (k : ∀ T h' L, Wk co Z a0 EL own bytes maxL ret nm ws p l e R s m args below meth c vm0 T h' L (cells + rm.cells) (slots + rm.slots) → Keep h h' wc → Q h' → Ends p e below G (T.setTop (mkF m pc' ls rest))) : Ends p e below G (T.setTop (mkF m pc ls st)) := by
  subst hp
  obtain ⟨v, vm₁, ⟨T', L', k', n'⟩, h1, Y, ⟨Lc, ⟨⟨rfl, q1⟩, q2, q3, q4⟩, l1, l2, l3⟩, st1⟩ := S.1 (backOf (Q := fun v h' L => (RU Q) v h' ∧ Fr Z.heap.size L ∧ Keep h h' wc ∧ Ext Z.heap h') (W := (rest.map fun v => v.category).sum) M X.hZ w4 w3 hf hl) (by show 2 * 0 + _ ≤ _; rw [Nat.mul_zero, Nat.zero_add]; exact Nat.le_refl _) (fun vm₁ _ => ⟨rfl, X.eT, hc, hs⟩)
  dsimp only [Pt.U, Pt.locs, Pt.cells, Pt.slots] at Y l1 l2 l3 st1 q2 q3 q4 q1
  subst l1 l2 l3
  exact Ends.go st1 (k _ _ _ (X.keep Y rfl q3 Sf q2 hz hk) q3 q1)
theorem Wk.callP (X : Wk co Z a0 EL own bytes maxL ret nm ws p l e R s m args below meth c vm0 T h locs cells slots) {len : Nat} {y : MethodName} {ybytes : ByteArray} {ymaxL : Nat} {yret : Option FieldType} {rm : Room} {a : Array Value} {Q : Value → Prop} {st : List Value} (S : Site p l e R (s.setVm vm0) m args below meth c T locs cells slots (mkF m pc ls st) len y a rest) (M : MN l Z y ybytes ymaxL yret [] rm a h [] (RP h Q)) (w4 : (Cond.code y ybytes ymaxL yret).before a0 Z = true) (w3 : (Cond.initialized y.cls).before a0 Z = true) (hf : rm.frames + 1 ≤ R.frames) (hl : (rest.map fun v => v.category).sum + (ymaxL + 11) + rm.locals ≤ R.locals) (hc : cells + rm.cells ≤ R.cells) (hs : slots + rm.slots ≤ R.slots) (hp : pc + len = pc') (k : ∀ T L (v : Value), Wk co Z a0 EL own bytes maxL ret nm ws p l e R s m args below meth c vm0 T h L (cells + rm.cells) (slots + rm.slots) → Q v → Ends p e below G (T.setTop (mkF m pc' ls (v :: rest)))) : Ends p e below G (T.setTop (mkF m pc ls st)) := by
  subst hp
  obtain ⟨v, vm₁, ⟨T', L', k', n'⟩, h1, Y, ⟨Lc, ⟨⟨w, rfl, e1, q1⟩, q2, q3, q4⟩, l1, l2, l3⟩, st1⟩ := S.1 (backOf (Q := fun v h' L => (RP h Q) v h' ∧ Fr Z.heap.size L ∧ Keep h h' [] ∧ Ext Z.heap h') (W := (rest.map fun v => v.category).sum) M X.hZ w4 w3 hf hl) (by show 2 * 0 + _ ≤ _; rw [Nat.mul_zero, Nat.zero_add]; exact Nat.le_refl _) (fun vm₁ _ => ⟨rfl, X.eT, hc, hs⟩)
  dsimp only [Pt.U, Pt.locs, Pt.cells, Pt.slots] at Y l1 l2 l3 st1 q2 q3 q4 e1
  subst l1 l2 l3
  exact Ends.go st1 (k _ _ _ (by have W := X.keep Y rfl q3 sf0 q2 all0 all0; rw [e1] at W; exact W) q1)
theorem Wk.callO (X : Wk co Z a0 EL own bytes maxL ret nm ws p l e R s m args below meth c vm0 T h locs cells slots) {len : Nat} {y : MethodName} {ybytes : ByteArray} {ymaxL : Nat} {yret : Option FieldType} {rm : Room} {a : Array Value}  {st : List Value} (S : Site p l e R (s.setVm vm0) m args below meth c T locs cells slots (mkF m pc ls st) len y a rest) (M : MN l Z y ybytes ymaxL yret [] rm a h [] (RO h)) (w4 : (Cond.code y ybytes ymaxL yret).before a0 Z = true) (w3 : (Cond.initialized y.cls).before a0 Z = true) (hf : rm.frames + 1 ≤ R.frames) (hl : (rest.map fun v => v.category).sum + (ymaxL + 11) + rm.locals ≤ R.locals) (hc : cells + rm.cells ≤ R.cells) (hs : slots + rm.slots ≤ R.slots) (hp : pc + len = pc') (k : ∀ T L, Wk co Z a0 EL own bytes maxL ret nm ws p l e R s m args below meth c vm0 T h L (cells + rm.cells) (slots + rm.slots) → Ends p e below G (T.setTop (mkF m pc' ls rest))) : Ends p e below G (T.setTop (mkF m pc ls st)) := by
  subst hp
  obtain ⟨v, vm₁, ⟨T', L', k', n'⟩, h1, Y, ⟨Lc, ⟨⟨rfl, e1⟩, q2, q3, q4⟩, l1, l2, l3⟩, st1⟩ := S.1 (backOf (Q := fun v h' L => (RO h) v h' ∧ Fr Z.heap.size L ∧ Keep h h' [] ∧ Ext Z.heap h') (W := (rest.map fun v => v.category).sum) M X.hZ w4 w3 hf hl) (by show 2 * 0 + _ ≤ _; rw [Nat.mul_zero, Nat.zero_add]; exact Nat.le_refl _) (fun vm₁ _ => ⟨rfl, X.eT, hc, hs⟩)
  dsimp only [Pt.U, Pt.locs, Pt.cells, Pt.slots] at Y l1 l2 l3 st1 q2 q3 q4 e1
  subst l1 l2 l3
  exact Ends.go st1 (k _ _ (by have W := X.keep Y rfl q3 sf0 q2 all0 all0; rw [e1] at W; exact W))
theorem Wk.coldV (X : Wk true Z a0 EL own bytes maxL ret nm ws p l e R s m args below meth c vm0 T h locs cells slots) {len : Nat} {y : MethodName} {ybytes : ByteArray} {ymaxL : Nat} {yret : Option FieldType} {rm : Room} {a : Array Value} {wc : List Addr} {Q : Value → Heap → Prop} {st : List Value} (S : Site p l e R (s.setVm vm0) m args below meth c T locs cells slots (mkF m pc ls st) len y a rest) (M : MCc l Z EL y ybytes ymaxL yret [] rm a h wc (RV Q)) (w4 : (Cond.code y ybytes ymaxL yret).before a0 Z = true) (w3 : (Cond.initialized y.cls).before a0 Z = true) (hf : rm.frames + 1 ≤ R.frames) (hl : (rest.map fun v => v.category).sum + (ymaxL + 11) + rm.locals ≤ R.locals) (hc : cells + rm.cells ≤ R.cells) (hs : slots + rm.slots ≤ R.slots) (hk : ∀ x ∈ wc, x ∈ ws ∨ s.heap.size ≤ x) (hp : pc + len = pc') (k : ∀ T vm h' L (v : Value), Wk true Z a0 EL own bytes maxL ret nm ws p l e R s m args below meth c vm T h' L (cells + rm.cells) (slots + rm.slots) → Keep h h' wc → CHr Z EL vm0 h vm h' → Q v h' → Ends p e below G (T.setTop (mkF m pc' ls (v :: rest)))) : Ends p e below G (T.setTop (mkF m pc ls st)) := by
  subst hp
  obtain ⟨v, vm₁, ⟨T', L', k', n'⟩, h1, Y, hS, hgr, ⟨Lc, ⟨⟨w, rfl, q1⟩, q2, q3, q4⟩, l1, l2, l3, hC⟩, st1⟩ := S.2 (backOfSH (s := s) (Q := fun v h' L => (RV Q) v h' ∧ Fr Z.heap.size L ∧ Keep h h' wc ∧ Ext Z.heap h') (W := (rest.map fun v => v.category).sum) M X.hZ w4 w3 hf hl X.ew X.H) (by show 2 * 0 + _ ≤ _; rw [Nat.mul_zero, Nat.zero_add]; exact Nat.le_refl _) (fun vm₁ _ => ⟨rfl, X.eT, hc, hs⟩)
  dsimp only [Pt.U, Pt.locs, Pt.cells, Pt.slots] at Y l1 l2 l3 st1 q1 q2 q3 q4 hS hC
  subst l1 l2 l3
  exact Ends.go st1 (k _ _ _ _ _ (X.cold Y hS hC q3 q2 q4 hk) q3 hC q1)
theorem Wk.coldU (X : Wk true Z a0 EL own bytes maxL ret nm ws p l e R s m args below meth c vm0 T h locs cells slots) {len : Nat} {y : MethodName} {ybytes : ByteArray} {ymaxL : Nat} {yret : Option FieldType} {rm : Room} {a : Array Value} {wc : List Addr} {Q : Heap → Prop} {st : List Value} (S : Site p l e R (s.setVm vm0) m args below meth c T locs cells slots (mkF m pc ls st) len y a rest) (M : MCc l Z EL y ybytes ymaxL yret [] rm a h wc (RU Q)) (w4 : (Cond.code y ybytes ymaxL yret).before a0 Z = true) (w3 : (Cond.initialized y.cls).before a0 Z = true) (hf : rm.frames + 1 ≤ R.frames) (hl : (rest.map fun v => v.category).sum + (ymaxL + 11) + rm.locals ≤ R.locals) (hc : cells + rm.cells ≤ R.cells) (hs : slots + rm.slots ≤ R.slots) (hk : ∀ x ∈ wc, x ∈ ws ∨ s.heap.size ≤ x) (hp : pc + len = pc') (k : ∀ T vm h' L, Wk true Z a0 EL own bytes maxL ret nm ws p l e R s m args below meth c vm T h' L (cells + rm.cells) (slots + rm.slots) → Keep h h' wc → CHr Z EL vm0 h vm h' → Q h' → Ends p e below G (T.setTop (mkF m pc' ls rest))) : Ends p e below G (T.setTop (mkF m pc ls st)) := by
  subst hp
  obtain ⟨v, vm₁, ⟨T', L', k', n'⟩, h1, Y, hS, hgr, ⟨Lc, ⟨⟨rfl, q1⟩, q2, q3, q4⟩, l1, l2, l3, hC⟩, st1⟩ := S.2 (backOfSH (s := s) (Q := fun v h' L => (RU Q) v h' ∧ Fr Z.heap.size L ∧ Keep h h' wc ∧ Ext Z.heap h') (W := (rest.map fun v => v.category).sum) M X.hZ w4 w3 hf hl X.ew X.H) (by show 2 * 0 + _ ≤ _; rw [Nat.mul_zero, Nat.zero_add]; exact Nat.le_refl _) (fun vm₁ _ => ⟨rfl, X.eT, hc, hs⟩)
  dsimp only [Pt.U, Pt.locs, Pt.cells, Pt.slots] at Y l1 l2 l3 st1 q1 q2 q3 q4 hS hC
  subst l1 l2 l3
  exact Ends.go st1 (k _ _ _ _ (X.cold Y hS hC q3 q2 q4 hk) q3 hC q1)
end Ends2
end Jvm.Pilot.@@N@@.Y
namespace Jvm.Pilot.@@N@@.Y
open Jvm Jvm.ClassFile Sem Op Lib Jvm.Free Jvm.Stand Jvm.LawKit Jvm.RoadKit Bundle
section Str
variable {co : Bool} {Z : State} {a0 : Array Value} {EL : List (String × Nat)} {own : String} {bytes : ByteArray} {maxL : Nat} {ret : Option FieldType} {nm : String} {ws : List Addr} {p : Program} {l : Launch} {e : Env} {R : Room} {s : State} {m : MethodId} {args : Array Value} {below : List Frame} {meth : Method} {c : Code} {vm0 : Vm} {T : State} {h h' : Heap} {locs : List Loc} {cells slots : Nat} {G : Outcome → State → Prop} {pc pc' : Nat} {ls : Array Slot} {rest : List Value} {Q : Option Value → Heap → Prop}
/-- x is a String that spells cs -/
def Str (Z : State) (h : Heap) (x : Addr) (cs : List Int32) : Prop := ∃ (t : Addr) (kb : ClassId) (cd N : Int32) (vs : List Value), Exa Z h x "java/lang/String" ∧ Fld Z h x "java/lang/String" "value" "[B" (.ref t) ∧ Fld Z h x "java/lang/String" "coder" "B" (.int cd) ∧ Arv Z h t kb .byte N vs (.int 0) ∧ StrChars.Road.CodA cs cd N vs ∧ (∀ c ∈ cs, ¬ c < 0 ∧ ¬ (65535 : Int32) < c) ∧ cs.length ≤ 4000
theorem Str.exa {x : Addr} {cs : List Int32} (S : Str Z h x cs) : Exa Z h x "java/lang/String" := by obtain ⟨_, _, _, _, _, E, -⟩ := S; exact E
theorem Str.lt {x : Addr} {cs : List Int32} (S : Str Z h x cs) : x < h.size := S.exa.lt
theorem Str.ext {x : Addr} {cs : List Int32} (S : Str Z h x cs) (E : Ext h h') : Str Z h' x cs := by
  obtain ⟨t, kb, cd, N, vs, s1, s2, s3, s4, r⟩ := S; exact ⟨t, kb, cd, N, vs, s1.ext E, s2.ext E, s3.ext E, s4.ext E, r⟩
theorem Str.keep0 {x : Addr} {cs : List Int32} (S : Str Z h x cs) (K : Keep h h' []) : Str Z h' x cs := by
  obtain ⟨t, kb, cd, N, vs, s1, s2, s3, s4, r⟩ := S; exact ⟨t, kb, cd, N, vs, s1.keep K, s2.keep K nin0, s3.keep K nin0, s4.keep K nin0, r⟩
/-- a is an object, no array -/
def Obj (Z : State) (h : Heap) (a : Addr) : Prop := ∃ (C : String) (k : Nat) (a0 : Array Value), Exa Z h a C ∧ (Cond.instantiable C k).before a0 Z = true
theorem obj {C : String} {k : Nat} {a : Addr} (E : Exa Z h a C) (w : (Cond.instantiable C k).before a0 Z = true) : Obj Z h a := ⟨C, k, a0, E, w⟩
theorem Obj.ne {a b : Addr} {k : ClassId} {ty : FieldType} {z : Int32} {vs : List Value} {d : Value} (O : Obj Z h a) (A : Arv Z h b k ty z vs d) : b ≠ a := by
  obtain ⟨C, n, a0, E, w⟩ := O; exact Ne.symm (Exa.neArv E A w)
theorem arv_ty {a b : Addr} {k1 k2 : ClassId} {t1 t2 : FieldType} {z1 z2 : Int32} {v1 v2 : List Value} {d1 d2 : Value} (A : Arv Z h a k1 t1 z1 v1 d1) (B : Arv Z h b k2 t2 z2 v2 d2) (q : t1 ≠ t2) : a ≠ b := fun e => by
  subst e
  obtain ⟨c1, ⟨a1, ⟨-, kA, hkA, compA, hkindA⟩, -⟩, -⟩ := A
  obtain ⟨c2, ⟨b1, ⟨-, kB, hkB, compB, hkindB⟩, -⟩, -⟩ := B
  cases a1.symm.trans b1
  cases hkA.symm.trans hkB
  have := hkindA.symm.trans hkindB
  injection this with _ e
  exact q e
theorem Str.keep1 {x a : Addr} {cs : List Int32} (S : Str Z h x cs) (K : Keep h h' [a]) (ne : x ≠ a) (O : Obj Z h a) : Str Z h' x cs := by
  obtain ⟨t, kb, cd, N, vs, s1, s2, s3, s4, r⟩ := S
  exact ⟨t, kb, cd, N, vs, s1.keep K, s2.keep K (ninS ne nin0), s3.keep K (ninS ne nin0), s4.keep K (ninS (O.ne s4) nin0), r⟩
theorem Str.keep2 {x a b : Addr} {cs : List Int32} {k : ClassId} {ty : FieldType} {z : Int32} {vs' : List Value} {d : Value} (S : Str Z h x cs) (K : Keep h h' [a, b]) (ne : x ≠ a) (O : Obj Z h a) (ne' : x ≠ b) (B : Arv Z h b k ty z vs' d ∧ ty ≠ .byte) : Str Z h' x cs := by
  obtain ⟨t, kb, cd, N, vs, s1, s2, s3, s4, r⟩ := S
  exact ⟨t, kb, cd, N, vs, s1.keep K, s2.keep K (ninS ne (ninS ne' nin0)), s3.keep K (ninS ne (ninS ne' nin0)), s4.keep K (ninS (O.ne s4) (ninS (Ne.symm (arv_ty B.1 s4 B.2)) nin0)), r⟩
theorem Str.wrA {x a : Addr} {cs : List Int32} {k : ClassId} {ty : FieldType} {z : Int32} {vs' : List Value} {d v : Value} {sl n : Nat} (S : Str Z h x cs) (W : Wr h h' a sl v) (A : Arv Z h a k ty z vs' d) (q : ty ≠ .byte) (wi : (Cond.instantiable "java/lang/String" n).before a0 Z = true) : Str Z h' x cs := by
  obtain ⟨t, kb, cd, N, vs, s1, s2, s3, s4, r⟩ := S
  have n1 : x ≠ a := Exa.neArv s1 A wi
  have n2 : t ≠ a := Ne.symm (arv_ty A s4 q)
  exact ⟨t, kb, cd, N, vs, s1.wr W, s2.other W (Or.inl n1), s3.other W (Or.inl n1), s4.other W n2, r⟩
theorem chr255 {x c : Int32} (q : (x &&& (255 : Int32)).toUInt32.toUInt16.toUInt32.toInt32 = c) : (¬ c < 0 ∧ ¬ (255 : Int32) < c) ∧ nar .char c = c := by
  rw [i2c_mask] at q
  have h1 := c_and x 255 (by decide)
  rw [q] at h1
  have e255 : (255 : Int32).toInt = 255 := rfl
  refine ⟨⟨fun z => ?_, fun z => ?_⟩, ?_⟩
  · rw [Int32.lt_iff_toInt_lt] at z; have : (0 : Int32).toInt = 0 := rfl; omega
  · rw [Int32.lt_iff_toInt_lt] at z; omega
  · show c.toUInt32.toUInt16.toUInt32.toInt32 = c
    rw [← q]; exact i2c_mask x
theorem narB (x : Int32) : nar .byte (x.toInt8.toInt32) = x.toInt8.toInt32 := by
  show x.toInt8.toInt32.toInt8.toInt32 = x.toInt8.toInt32
  rw [Int8.toInt8_toInt32]
theorem up16 {cs : List Int32} (h : ∀ c ∈ cs, ¬ c < 0 ∧ ¬ (255 : Int32) < c) : ∀ c ∈ cs, ¬ c < 0 ∧ ¬ (65535 : Int32) < c := fun c hc => ⟨(h c hc).1, fun q => (h c hc).2 (by rw [Int32.lt_iff_toInt_lt] at q ⊢; have e1 : (65535 : Int32).toInt = 65535 := rfl; have e2 : (255 : Int32).toInt = 255 := rfl; omega)⟩
theorem all1 {P : Int32 → Prop} {c : Int32} (h : P c) : ∀ d ∈ [c], P d := fun d hd => by cases List.mem_singleton.mp hd; exact h
theorem allC {P : Int32 → Prop} {c : Int32} {cs : List Int32} (h : P c) (r : ∀ d ∈ cs, P d) : ∀ d ∈ c :: cs, P d := fun d hd => by
  rcases List.mem_cons.mp hd with rfl | hd
  · exact h
  · exact r d hd
theorem allN {P : Int32 → Prop} : ∀ d ∈ ([] : List Int32), P d := fun d hd => nomatch hd
theorem eqI_v {args : Array Value} {t : Term} {v : Int32} (h : (Cond.eq t (.int v)).value args Z none Z [] = some true) : t.eval args Z none [] Z = some (.int v) := by
  obtain ⟨x, y, e1, e2, -, k2⟩ := cmp_v (Or.inl h)
  have e3 : (Term.int v).eval args Z none [] Z = some (.int v) := Term.int_eval v
  cases e2.symm.trans e3
  obtain ⟨z, rfl⟩ := k2
  have := gotT (Cond.eq_ints e1 e3) h
  rw [e1, this]
theorem noInst {C K : String} {n : Nat} (w : (Cond.superclass C "java/lang/Object").before a0 Z = true) (wo : (Cond.noSuperclass "java/lang/Object").before a0 Z = true) (wk : (Cond.instantiable K n).before a0 Z = true) (q1 : C ≠ K) (q2 : "java/lang/Object" ≠ K) : ∃ c t, Z.vm.findClass C = some c ∧ Z.vm.findClass K = some t ∧ Z.vm.assignable c t = false := by
  obtain ⟨t, kt, g0, g2, g5, g6, -⟩ := Cond.instantiable_spec wk
  have g7 : kt.isInterface = false := (Bool.or_eq_false_iff.mp g6).1
  obtain ⟨co, ko, o1, o2, o3, -, -⟩ := Cond.noSuperclass_spec wo
  have nO : NS Z "java/lang/Object" K := by
    have ne := ids_ne o1 g0 q2
    refine ⟨co, t, o1, g0, fun fuel => ?_⟩
    cases fuel with
    | zero => rfl
    | succ f => simp [Vm.isSubclassAux, ne, o2, o3]
  obtain ⟨c, t', h0, g0', n3⟩ := NS.step w nO q1
  cases g0.symm.trans g0'
  obtain ⟨p, k, kp, h1, h2, h3, h4, h5, -, h7⟩ := Cond.superclass_spec h0 w
  have ne := ids_ne h0 g0 q1
  refine ⟨c, t, h0, g0, ?_⟩
  show Z.vm.assignableAux (255 + 1) c t = false
  simp [Vm.assignableAux, ne, h2, g2, h5, g5, g7, Vm.isSubclass, n3]
/-- new String(chars): one to 4,000 chars, each 0 to 255 -/
theorem Wk.newStr (X : Wk co Z a0 EL own bytes maxL ret nm ws p l e R s m args below meth c vm0 T h locs cells slots) {st : List Value} {x b : Addr} {kC : ClassId} {cs : List Int32} {d c0 : Value} {z N : Int32} {n : Nat} (S : Site p l e R (s.setVm vm0) m args below meth c T locs cells slots (mkF m pc ls st) 3 (⟨"java/lang/String", "<init>", "([C)V"⟩ : MethodName) #[.ref x, .ref b] rest) (hws : ∀ d ∈ StrChars.Road.words, d.before a0 Z = true) {kI : Nat} (wi : (Cond.instantiable "java/lang/String" kI).before a0 Z = true) (Ex : Exa Z h x "java/lang/String") (V : Fld Z h x "java/lang/String" "value" "[B" .null) (C : Fld Z h x "java/lang/String" "coder" "B" c0) (K : Arv Z h b kC .char N (cs.map Value.int) d) (O2 : Sta Z Z.heap "java/lang/String" "COMPACT_STRINGS" "Z" (.int z)) (hz : ¬ z = 0) (hn : cs.length = n) (hN : N = Int32.ofNat n) (l0 : 0 < n) (l2 : n ≤ 4000) (hp : ∀ c ∈ cs, ¬ c < 0 ∧ ¬ (255 : Int32) < c) (hfr : 4 ≤ R.frames) (hlo : (rest.map fun v => v.category).sum + 65 ≤ R.locals) (hc : cells + 1 ≤ R.cells) (hs : slots + n ≤ R.slots) (zx : Z.heap.size ≤ x) (hk : x ∈ ws ∨ s.heap.size ≤ x) (hpc : pc + 3 = pc') (k : ∀ T h' L, Wk co Z a0 EL own bytes maxL ret nm ws p l e R s m args below meth c vm0 T h' L (cells + 1) (slots + n) → Keep h h' [x] → Str Z h' x cs → Ends p e below G (T.setTop (mkF m pc' ls rest))) : Ends p e below G (T.setTop (mkF m pc ls st)) := by
  subst hpc
  obtain ⟨v, vm₁, ⟨T', L', k', n'⟩, h1, Y, ⟨Lc, ⟨rfl, q2, q3, q4, q5, t, kb, -, -, -, q6, q7⟩, l1, l3, l4⟩, st1⟩ := S.1 (StrChars.Road.backV (W := (rest.map fun v => v.category).sum) X.hZ hws wi (n0 := Z.heap.size) zx X.old.1 Ex V C K (O2.ext X.old) hz hn hN l0 l2 hp rfl hfr hlo) (by show 2 * 0 + _ ≤ _; rw [Nat.mul_zero, Nat.zero_add]; exact Nat.le_refl _) (fun vm₁ _ => ⟨rfl, X.eT, hc, hs⟩)
  dsimp only [Pt.U, Pt.locs, Pt.cells, Pt.slots] at Y l1 l3 l4 st1 q2 q3 q4 q5 q6 q7
  subst l1 l3 l4
  have hcod : StrChars.Road.CodA cs 0 N ((cs.map fun c => c.toInt8.toInt32).map Value.int) := by rw [hN]; exact StrChars.Road.codOf hn fun c hc => (hp c hc).2
  exact Ends.go st1 (k _ _ _ (X.keep Y rfl q3 (sfS (Safe.blank X.al Ex wi V) sf0) q2 (allS zx all0) (allS hk all0)) q3 ⟨t, kb, 0, N, _, q4, q6, q5, q7, hcod, up16 hp, by omega⟩)
/-- String.length of a known String -/
theorem Wk.lenStr (X : Wk co Z a0 EL own bytes maxL ret nm ws p l e R s m args below meth c vm0 T h locs cells slots) {st : List Value} {x : Addr} {cs : List Int32} {z : Int32} (S : Site p l e R (s.setVm vm0) m args below meth c T locs cells slots (mkF m pc ls st) 3 (⟨"java/lang/String", "length", "()I"⟩ : MethodName) #[.ref x] rest) (hws : ∀ d ∈ StrChars.Road.wordsLen, d.before a0 Z = true) {kI : Nat} (wi : (Cond.instantiable "java/lang/String" kI).before a0 Z = true) (A : Str Z h x cs) (O2 : Sta Z Z.heap "java/lang/String" "COMPACT_STRINGS" "Z" (.int z)) (hz : ¬ z = 0) (hfr : 2 ≤ R.frames) (hlo : (rest.map fun v => v.category).sum + 25 ≤ R.locals) (hc : cells + 0 ≤ R.cells) (hs : slots + 0 ≤ R.slots) (hpc : pc + 3 = pc') (k : ∀ T, Wk co Z a0 EL own bytes maxL ret nm ws p l e R s m args below meth c vm0 T h locs cells slots → Ends p e below G (T.setTop (mkF m pc' ls (.int (Int32.ofNat cs.length) :: rest)))) : Ends p e below G (T.setTop (mkF m pc ls st)) := by
  subst hpc
  obtain ⟨t, kb, cd, N, vs, s1, s2, s3, s4, s5, s6, s7⟩ := A
  obtain ⟨v, vm₁, ⟨T', L', k', n'⟩, h1, Y, ⟨Lc, ⟨rfl, rfl, q3⟩, l1, l3, l4⟩, st1⟩ := S.1 (StrChars.Road.lenW (W := (rest.map fun v => v.category).sum) X.hZ hws wi s1 s2 s3 s4 s5 s6 (O2.ext X.old) hz s7 hfr hlo) (by show 2 * 0 + _ ≤ _; rw [Nat.mul_zero, Nat.zero_add]; exact Nat.le_refl _) (fun vm₁ _ => ⟨rfl, X.eT, hc, hs⟩)
  dsimp only [Pt.U, Pt.locs, Pt.cells, Pt.slots] at Y l1 l3 l4 st1 q3
  subst l1 l3 l4
  rw [List.append_nil] at Y
  exact Ends.go st1 (k _ (X.same Y q3))
end Str
end Jvm.Pilot.@@N@@.Y
namespace Jvm.Pilot.@@N@@
open Jvm Jvm.ClassFile Sem Op Lib Jvm.Free Jvm.Stand Jvm.LawKit Jvm.RoadKit Bundle Y Jvm.Pilot.@@N@@.Jvm.D
theorem d4_0 : decode jdk_42_method_149_code 0 = .ok (.aload_n 0, 1) := by decide +kernel
theorem d4_1 : decode jdk_42_method_149_code 1 = .ok (.invokespecial 1, 3) := by decide +kernel
theorem d4_4 : decode jdk_42_method_149_code 4 = .ok (.iload_n 3, 1) := by decide +kernel
theorem d4_5 : decode jdk_42_method_149_code 5 = .ok (.ifCond .ne 22, 3) := by decide +kernel
theorem d4_8 : decode jdk_42_method_149_code 8 = .ok (.aload_n 0, 1) := by decide +kernel
theorem d4_9 : decode jdk_42_method_149_code 9 = .ok (.ldc 7, 2) := by decide +kernel
theorem d4_11 : decode jdk_42_method_149_code 11 = .ok (.getfield 9, 3) := by decide +kernel
theorem d4_14 : decode jdk_42_method_149_code 14 = .ok (.putfield 9, 3) := by decide +kernel
theorem d4_17 : decode jdk_42_method_149_code 17 = .ok (.aload_n 0, 1) := by decide +kernel
theorem d4_18 : decode jdk_42_method_149_code 18 = .ok (.ldc 7, 2) := by decide +kernel
theorem d4_20 : decode jdk_42_method_149_code 20 = .ok (.getfield 15, 3) := by decide +kernel
theorem d4_23 : decode jdk_42_method_149_code 23 = .ok (.putfield 15, 3) := by decide +kernel
theorem d4_26 : decode jdk_42_method_149_code 26 = .ok (.return_, 1) := by decide +kernel
theorem d3_0 : decode jdk_42_method_3_code 0 = .ok (.aload_n 0, 1) := by decide +kernel
theorem d3_1 : decode jdk_42_method_3_code 1 = .ok (.aload_n 1, 1) := by decide +kernel
theorem d3_2 : decode jdk_42_method_3_code 2 = .ok (.iconst 0, 1) := by decide +kernel
theorem d3_3 : decode jdk_42_method_3_code 3 = .ok (.aload_n 1, 1) := by decide +kernel
theorem d3_4 : decode jdk_42_method_3_code 4 = .ok (.arraylength, 1) := by decide +kernel
theorem d3_5 : decode jdk_42_method_3_code 5 = .ok (.aconst_null, 1) := by decide +kernel
theorem d3_6 : decode jdk_42_method_3_code 6 = .ok (.invokespecial 27, 3) := by decide +kernel
theorem d3_9 : decode jdk_42_method_3_code 9 = .ok (.return_, 1) := by decide +kernel
theorem d24_0 : decode jdk_52_method_4_code 0 = .ok (.getstatic 44, 3) := by decide +kernel
theorem d24_3 : decode jdk_52_method_4_code 3 = .ok (.ifCond .ne 25, 3) := by decide +kernel
theorem d24_28 : decode jdk_52_method_4_code 28 = .ok (.iload_n 1, 1) := by decide +kernel
theorem d24_29 : decode jdk_52_method_4_code 29 = .ok (.iconst 1, 1) := by decide +kernel
theorem d24_30 : decode jdk_52_method_4_code 30 = .ok (.ishl, 1) := by decide +kernel
theorem d24_31 : decode jdk_52_method_4_code 31 = .ok (.istore_n 1, 1) := by decide +kernel
theorem d24_32 : decode jdk_52_method_4_code 32 = .ok (.aload_n 0, 1) := by decide +kernel
theorem d24_33 : decode jdk_52_method_4_code 33 = .ok (.iload_n 1, 1) := by decide +kernel
theorem d24_34 : decode jdk_52_method_4_code 34 = .ok (.iinc 1 1, 3) := by decide +kernel
theorem d24_37 : decode jdk_52_method_4_code 37 = .ok (.iload_n 2, 1) := by decide +kernel
theorem d24_38 : decode jdk_52_method_4_code 38 = .ok (.getstatic 59, 3) := by decide +kernel
theorem d24_41 : decode jdk_52_method_4_code 41 = .ok (.ishr, 1) := by decide +kernel
theorem d24_42 : decode jdk_52_method_4_code 42 = .ok (.i2b, 1) := by decide +kernel
theorem d24_43 : decode jdk_52_method_4_code 43 = .ok (.bastore, 1) := by decide +kernel
theorem d24_44 : decode jdk_52_method_4_code 44 = .ok (.aload_n 0, 1) := by decide +kernel
theorem d24_45 : decode jdk_52_method_4_code 45 = .ok (.iload_n 1, 1) := by decide +kernel
theorem d24_46 : decode jdk_52_method_4_code 46 = .ok (.iload_n 2, 1) := by decide +kernel
theorem d24_47 : decode jdk_52_method_4_code 47 = .ok (.getstatic 63, 3) := by decide +kernel
theorem d24_50 : decode jdk_52_method_4_code 50 = .ok (.ishr, 1) := by decide +kernel
theorem d24_51 : decode jdk_52_method_4_code 51 = .ok (.i2b, 1) := by decide +kernel
theorem d24_52 : decode jdk_52_method_4_code 52 = .ok (.bastore, 1) := by decide +kernel
theorem d24_53 : decode jdk_52_method_4_code 53 = .ok (.return_, 1) := by decide +kernel
theorem d25_0 : decode jdk_52_method_5_code 0 = .ok (.getstatic 44, 3) := by decide +kernel
theorem d25_3 : decode jdk_52_method_5_code 3 = .ok (.ifCond .ne 25, 3) := by decide +kernel
theorem d25_28 : decode jdk_52_method_5_code 28 = .ok (.iload_n 1, 1) := by decide +kernel
theorem d25_29 : decode jdk_52_method_5_code 29 = .ok (.iconst 1, 1) := by decide +kernel
theorem d25_30 : decode jdk_52_method_5_code 30 = .ok (.ishl, 1) := by decide +kernel
theorem d25_31 : decode jdk_52_method_5_code 31 = .ok (.istore_n 1, 1) := by decide +kernel
theorem d25_32 : decode jdk_52_method_5_code 32 = .ok (.aload_n 0, 1) := by decide +kernel
theorem d25_33 : decode jdk_52_method_5_code 33 = .ok (.iload_n 1, 1) := by decide +kernel
theorem d25_34 : decode jdk_52_method_5_code 34 = .ok (.iinc 1 1, 3) := by decide +kernel
theorem d25_37 : decode jdk_52_method_5_code 37 = .ok (.baload, 1) := by decide +kernel
theorem d25_38 : decode jdk_52_method_5_code 38 = .ok (.sipush 255, 3) := by decide +kernel
theorem d25_41 : decode jdk_52_method_5_code 41 = .ok (.iand, 1) := by decide +kernel
theorem d25_42 : decode jdk_52_method_5_code 42 = .ok (.getstatic 59, 3) := by decide +kernel
theorem d25_45 : decode jdk_52_method_5_code 45 = .ok (.ishl, 1) := by decide +kernel
theorem d25_46 : decode jdk_52_method_5_code 46 = .ok (.aload_n 0, 1) := by decide +kernel
theorem d25_47 : decode jdk_52_method_5_code 47 = .ok (.iload_n 1, 1) := by decide +kernel
theorem d25_48 : decode jdk_52_method_5_code 48 = .ok (.baload, 1) := by decide +kernel
theorem d25_49 : decode jdk_52_method_5_code 49 = .ok (.sipush 255, 3) := by decide +kernel
theorem d25_52 : decode jdk_52_method_5_code 52 = .ok (.iand, 1) := by decide +kernel
theorem d25_53 : decode jdk_52_method_5_code 53 = .ok (.getstatic 63, 3) := by decide +kernel
theorem d25_56 : decode jdk_52_method_5_code 56 = .ok (.ishl, 1) := by decide +kernel
theorem d25_57 : decode jdk_52_method_5_code 57 = .ok (.ior, 1) := by decide +kernel
theorem d25_58 : decode jdk_52_method_5_code 58 = .ok (.i2c, 1) := by decide +kernel
theorem d25_59 : decode jdk_52_method_5_code 59 = .ok (.ireturn, 1) := by decide +kernel
theorem d23_0 : decode jdk_52_method_3_code 0 = .ok (.iload_n 0, 1) := by decide +kernel
theorem d23_1 : decode jdk_52_method_3_code 1 = .ok (.ifCond .ge 11, 3) := by decide +kernel
theorem d23_12 : decode jdk_52_method_3_code 12 = .ok (.iload_n 0, 1) := by decide +kernel
theorem d23_13 : decode jdk_52_method_3_code 13 = .ok (.ldc 20, 2) := by decide +kernel
theorem d23_15 : decode jdk_52_method_3_code 15 = .ok (.if_icmp .lt 40, 3) := by decide +kernel
theorem d23_55 : decode jdk_52_method_3_code 55 = .ok (.iload_n 0, 1) := by decide +kernel
theorem d23_56 : decode jdk_52_method_3_code 56 = .ok (.iconst 1, 1) := by decide +kernel
theorem d23_57 : decode jdk_52_method_3_code 57 = .ok (.ishl, 1) := by decide +kernel
theorem d23_58 : decode jdk_52_method_3_code 58 = .ok (.ireturn, 1) := by decide +kernel
theorem d22_0 : decode jdk_52_method_2_code 0 = .ok (.iload_n 0, 1) := by decide +kernel
theorem d22_1 : decode jdk_52_method_2_code 1 = .ok (.invokestatic 11, 3) := by decide +kernel
theorem d22_4 : decode jdk_52_method_2_code 4 = .ok (.newarray .byte, 2) := by decide +kernel
theorem d22_6 : decode jdk_52_method_2_code 6 = .ok (.areturn, 1) := by decide +kernel
theorem d21_0 : decode jdk_52_method_14_code 0 = .ok (.iload_n 2, 1) := by decide +kernel
theorem d21_1 : decode jdk_52_method_14_code 1 = .ok (.invokestatic 107, 3) := by decide +kernel
theorem d21_4 : decode jdk_52_method_14_code 4 = .ok (.astore_n 3, 1) := by decide +kernel
theorem d21_5 : decode jdk_52_method_14_code 5 = .ok (.iconst 0, 1) := by decide +kernel
theorem d21_6 : decode jdk_52_method_14_code 6 = .ok (.istore 4, 2) := by decide +kernel
theorem d21_8 : decode jdk_52_method_14_code 8 = .ok (.iload 4, 2) := by decide +kernel
theorem d21_10 : decode jdk_52_method_14_code 10 = .ok (.iload_n 2, 1) := by decide +kernel
theorem d21_11 : decode jdk_52_method_14_code 11 = .ok (.if_icmp .ge 21, 3) := by decide +kernel
theorem d21_14 : decode jdk_52_method_14_code 14 = .ok (.aload_n 3, 1) := by decide +kernel
theorem d21_15 : decode jdk_52_method_14_code 15 = .ok (.iload 4, 2) := by decide +kernel
theorem d21_17 : decode jdk_52_method_14_code 17 = .ok (.aload_n 0, 1) := by decide +kernel
theorem d21_18 : decode jdk_52_method_14_code 18 = .ok (.iload_n 1, 1) := by decide +kernel
theorem d21_19 : decode jdk_52_method_14_code 19 = .ok (.caload, 1) := by decide +kernel
theorem d21_20 : decode jdk_52_method_14_code 20 = .ok (.invokestatic 111, 3) := by decide +kernel
theorem d21_23 : decode jdk_52_method_14_code 23 = .ok (.iinc 1 1, 3) := by decide +kernel
theorem d21_26 : decode jdk_52_method_14_code 26 = .ok (.iinc 4 1, 3) := by decide +kernel
theorem d21_29 : decode jdk_52_method_14_code 29 = .ok (.goto (-21), 3) := by decide +kernel
theorem d21_32 : decode jdk_52_method_14_code 32 = .ok (.aload_n 3, 1) := by decide +kernel
theorem d21_33 : decode jdk_52_method_14_code 33 = .ok (.areturn, 1) := by decide +kernel
theorem d17_0 : decode jdk_52_method_21_code 0 = .ok (.iconst 0, 1) := by decide +kernel
theorem d17_1 : decode jdk_52_method_21_code 1 = .ok (.istore 5, 2) := by decide +kernel
theorem d17_3 : decode jdk_52_method_21_code 3 = .ok (.iload 5, 2) := by decide +kernel
theorem d17_5 : decode jdk_52_method_21_code 5 = .ok (.iload 4, 2) := by decide +kernel
theorem d17_7 : decode jdk_52_method_21_code 7 = .ok (.if_icmp .ge 37, 3) := by decide +kernel
theorem d17_10 : decode jdk_52_method_21_code 10 = .ok (.aload_n 0, 1) := by decide +kernel
theorem d17_11 : decode jdk_52_method_21_code 11 = .ok (.iload_n 1, 1) := by decide +kernel
theorem d17_12 : decode jdk_52_method_21_code 12 = .ok (.caload, 1) := by decide +kernel
theorem d17_13 : decode jdk_52_method_21_code 13 = .ok (.istore 6, 2) := by decide +kernel
theorem d17_15 : decode jdk_52_method_21_code 15 = .ok (.iload 6, 2) := by decide +kernel
theorem d17_17 : decode jdk_52_method_21_code 17 = .ok (.sipush 255, 3) := by decide +kernel
theorem d17_20 : decode jdk_52_method_21_code 20 = .ok (.if_icmp .le 6, 3) := by decide +kernel
theorem d17_23 : decode jdk_52_method_21_code 23 = .ok (.iload 5, 2) := by decide +kernel
theorem d17_25 : decode jdk_52_method_21_code 25 = .ok (.ireturn, 1) := by decide +kernel
theorem d17_26 : decode jdk_52_method_21_code 26 = .ok (.aload_n 2, 1) := by decide +kernel
theorem d17_27 : decode jdk_52_method_21_code 27 = .ok (.iload_n 3, 1) := by decide +kernel
theorem d17_28 : decode jdk_52_method_21_code 28 = .ok (.iload 6, 2) := by decide +kernel
theorem d17_30 : decode jdk_52_method_21_code 30 = .ok (.i2b, 1) := by decide +kernel
theorem d17_31 : decode jdk_52_method_21_code 31 = .ok (.bastore, 1) := by decide +kernel
theorem d17_32 : decode jdk_52_method_21_code 32 = .ok (.iinc 1 1, 3) := by decide +kernel
theorem d17_35 : decode jdk_52_method_21_code 35 = .ok (.iinc 3 1, 3) := by decide +kernel
theorem d17_38 : decode jdk_52_method_21_code 38 = .ok (.iinc 5 1, 3) := by decide +kernel
theorem d17_41 : decode jdk_52_method_21_code 41 = .ok (.goto (-38), 3) := by decide +kernel
theorem d16_0 : decode jdk_52_method_16_code 0 = .ok (.iload_n 2, 1) := by decide +kernel
theorem d16_1 : decode jdk_52_method_16_code 1 = .ok (.newarray .byte, 2) := by decide +kernel
theorem d16_3 : decode jdk_52_method_16_code 3 = .ok (.astore_n 3, 1) := by decide +kernel
theorem d16_4 : decode jdk_52_method_16_code 4 = .ok (.aload_n 0, 1) := by decide +kernel
theorem d16_5 : decode jdk_52_method_16_code 5 = .ok (.iload_n 1, 1) := by decide +kernel
theorem d16_6 : decode jdk_52_method_16_code 6 = .ok (.aload_n 3, 1) := by decide +kernel
theorem d16_7 : decode jdk_52_method_16_code 7 = .ok (.iconst 0, 1) := by decide +kernel
theorem d16_8 : decode jdk_52_method_16_code 8 = .ok (.iload_n 2, 1) := by decide +kernel
theorem d16_9 : decode jdk_52_method_16_code 9 = .ok (.invokestatic 115, 3) := by decide +kernel
theorem d16_12 : decode jdk_52_method_16_code 12 = .ok (.istore 4, 2) := by decide +kernel
theorem d16_14 : decode jdk_52_method_16_code 14 = .ok (.iload 4, 2) := by decide +kernel
theorem d16_16 : decode jdk_52_method_16_code 16 = .ok (.iload_n 2, 1) := by decide +kernel
theorem d16_17 : decode jdk_52_method_16_code 17 = .ok (.if_icmp .eq 40, 3) := by decide +kernel
theorem d16_20 : decode jdk_52_method_16_code 20 = .ok (.aload_n 0, 1) := by decide +kernel
theorem d16_21 : decode jdk_52_method_16_code 21 = .ok (.iload_n 1, 1) := by decide +kernel
theorem d16_22 : decode jdk_52_method_16_code 22 = .ok (.iload_n 2, 1) := by decide +kernel
theorem d16_23 : decode jdk_52_method_16_code 23 = .ok (.invokestatic 119, 3) := by decide +kernel
theorem d16_26 : decode jdk_52_method_16_code 26 = .ok (.astore 5, 2) := by decide +kernel
theorem d16_28 : decode jdk_52_method_16_code 28 = .ok (.aload 5, 2) := by decide +kernel
theorem d16_30 : decode jdk_52_method_16_code 30 = .ok (.iload 4, 2) := by decide +kernel
theorem d16_32 : decode jdk_52_method_16_code 32 = .ok (.invokestatic 71, 3) := by decide +kernel
theorem d16_35 : decode jdk_52_method_16_code 35 = .ok (.sipush 255, 3) := by decide +kernel
theorem d16_38 : decode jdk_52_method_16_code 38 = .ok (.if_icmp .gt 16, 3) := by decide +kernel
theorem d16_54 : decode jdk_52_method_16_code 54 = .ok (.aload 5, 2) := by decide +kernel
theorem d16_56 : decode jdk_52_method_16_code 56 = .ok (.areturn, 1) := by decide +kernel
theorem d18_0 : decode jdk_52_method_15_code 0 = .ok (.iload_n 1, 1) := by decide +kernel
theorem d18_1 : decode jdk_52_method_15_code 1 = .ok (.aload_n 0, 1) := by decide +kernel
theorem d18_2 : decode jdk_52_method_15_code 2 = .ok (.arraylength, 1) := by decide +kernel
theorem d18_3 : decode jdk_52_method_15_code 3 = .ok (.isub, 1) := by decide +kernel
theorem d18_4 : decode jdk_52_method_15_code 4 = .ok (.bipush 31, 2) := by decide +kernel
theorem d18_6 : decode jdk_52_method_15_code 6 = .ok (.iushr, 1) := by decide +kernel
theorem d18_7 : decode jdk_52_method_15_code 7 = .ok (.i2b, 1) := by decide +kernel
theorem d18_8 : decode jdk_52_method_15_code 8 = .ok (.ireturn, 1) := by decide +kernel
theorem d4_27 : decode jdk_42_method_149_code 27 = .ok (.getstatic 38, 3) := by decide +kernel
theorem d4_30 : decode jdk_42_method_149_code 30 = .ok (.ifCond .eq 28, 3) := by decide +kernel
theorem d4_33 : decode jdk_42_method_149_code 33 = .ok (.aload_n 1, 1) := by decide +kernel
theorem d4_34 : decode jdk_42_method_149_code 34 = .ok (.iload_n 2, 1) := by decide +kernel
theorem d4_35 : decode jdk_42_method_149_code 35 = .ok (.iload_n 3, 1) := by decide +kernel
theorem d4_36 : decode jdk_42_method_149_code 36 = .ok (.invokestatic 177, 3) := by decide +kernel
theorem d4_39 : decode jdk_42_method_149_code 39 = .ok (.astore 5, 2) := by decide +kernel
theorem d4_41 : decode jdk_42_method_149_code 41 = .ok (.aload_n 0, 1) := by decide +kernel
theorem d4_42 : decode jdk_42_method_149_code 42 = .ok (.aload 5, 2) := by decide +kernel
theorem d4_44 : decode jdk_42_method_149_code 44 = .ok (.iload_n 3, 1) := by decide +kernel
theorem d4_45 : decode jdk_42_method_149_code 45 = .ok (.invokestatic 47, 3) := by decide +kernel
theorem d4_48 : decode jdk_42_method_149_code 48 = .ok (.putfield 15, 3) := by decide +kernel
theorem d4_51 : decode jdk_42_method_149_code 51 = .ok (.aload_n 0, 1) := by decide +kernel
theorem d4_52 : decode jdk_42_method_149_code 52 = .ok (.aload 5, 2) := by decide +kernel
theorem d4_54 : decode jdk_42_method_149_code 54 = .ok (.putfield 9, 3) := by decide +kernel
theorem d4_57 : decode jdk_42_method_149_code 57 = .ok (.return_, 1) := by decide +kernel
theorem d13_0 : decode jdk_43_method_4_code 0 = .ok (.iload_n 0, 1) := by decide +kernel
theorem d13_1 : decode jdk_43_method_4_code 1 = .ok (.ifCond .lt 14, 3) := by decide +kernel
theorem d13_4 : decode jdk_43_method_4_code 4 = .ok (.iload_n 0, 1) := by decide +kernel
theorem d13_5 : decode jdk_43_method_4_code 5 = .ok (.sipush 255, 3) := by decide +kernel
theorem d13_8 : decode jdk_43_method_4_code 8 = .ok (.if_icmp .gt 7, 3) := by decide +kernel
theorem d13_11 : decode jdk_43_method_4_code 11 = .ok (.iconst 1, 1) := by decide +kernel
theorem d13_12 : decode jdk_43_method_4_code 12 = .ok (.goto 4, 3) := by decide +kernel
theorem d13_16 : decode jdk_43_method_4_code 16 = .ok (.ireturn, 1) := by decide +kernel
theorem d14_0 : decode jdk_29_method_65_code 0 = .ok (.iload_n 0, 1) := by decide +kernel
theorem d14_1 : decode jdk_29_method_65_code 1 = .ok (.iload_n 1, 1) := by decide +kernel
theorem d14_2 : decode jdk_29_method_65_code 2 = .ok (.if_icmp .lt 7, 3) := by decide +kernel
theorem d14_5 : decode jdk_29_method_65_code 5 = .ok (.iload_n 0, 1) := by decide +kernel
theorem d14_6 : decode jdk_29_method_65_code 6 = .ok (.goto 4, 3) := by decide +kernel
theorem d14_10 : decode jdk_29_method_65_code 10 = .ok (.ireturn, 1) := by decide +kernel
theorem d15_0 : decode jdk_29_method_69_code 0 = .ok (.iload_n 0, 1) := by decide +kernel
theorem d15_1 : decode jdk_29_method_69_code 1 = .ok (.iload_n 1, 1) := by decide +kernel
theorem d15_2 : decode jdk_29_method_69_code 2 = .ok (.if_icmp .gt 7, 3) := by decide +kernel
theorem d15_5 : decode jdk_29_method_69_code 5 = .ok (.iload_n 0, 1) := by decide +kernel
theorem d15_6 : decode jdk_29_method_69_code 6 = .ok (.goto 4, 3) := by decide +kernel
theorem d15_10 : decode jdk_29_method_69_code 10 = .ok (.ireturn, 1) := by decide +kernel
theorem d9_0 : decode jdk_42_method_154_code 0 = .ok (.getstatic 38, 3) := by decide +kernel
theorem d9_3 : decode jdk_42_method_154_code 3 = .ok (.ifCond .eq 14, 3) := by decide +kernel
theorem d9_6 : decode jdk_42_method_154_code 6 = .ok (.aload_n 0, 1) := by decide +kernel
theorem d9_7 : decode jdk_42_method_154_code 7 = .ok (.getfield 15, 3) := by decide +kernel
theorem d9_10 : decode jdk_42_method_154_code 10 = .ok (.ifCond .ne 7, 3) := by decide +kernel
theorem d9_13 : decode jdk_42_method_154_code 13 = .ok (.iconst 1, 1) := by decide +kernel
theorem d9_14 : decode jdk_42_method_154_code 14 = .ok (.goto 4, 3) := by decide +kernel
theorem d9_18 : decode jdk_42_method_154_code 18 = .ok (.ireturn, 1) := by decide +kernel
theorem d9_17 : decode jdk_42_method_154_code 17 = .ok (.iconst 0, 1) := by decide +kernel
theorem d31_0 : decode jdk_41_method_12_code 0 = .ok (.iload_n 0, 1) := by decide +kernel
theorem d31_1 : decode jdk_41_method_12_code 1 = .ok (.ifCond .lt 13, 3) := by decide +kernel
theorem d31_4 : decode jdk_41_method_12_code 4 = .ok (.iload_n 0, 1) := by decide +kernel
theorem d31_5 : decode jdk_41_method_12_code 5 = .ok (.iload_n 1, 1) := by decide +kernel
theorem d31_6 : decode jdk_41_method_12_code 6 = .ok (.if_icmp .gt 8, 3) := by decide +kernel
theorem d31_9 : decode jdk_41_method_12_code 9 = .ok (.iload_n 1, 1) := by decide +kernel
theorem d31_10 : decode jdk_41_method_12_code 10 = .ok (.iload_n 2, 1) := by decide +kernel
theorem d31_11 : decode jdk_41_method_12_code 11 = .ok (.if_icmp .le 11, 3) := by decide +kernel
theorem d31_22 : decode jdk_41_method_12_code 22 = .ok (.iload_n 0, 1) := by decide +kernel
theorem d31_23 : decode jdk_41_method_12_code 23 = .ok (.ireturn, 1) := by decide +kernel
theorem d30_0 : decode jdk_42_method_158_code 0 = .ok (.iload_n 0, 1) := by decide +kernel
theorem d30_1 : decode jdk_42_method_158_code 1 = .ok (.iload_n 1, 1) := by decide +kernel
theorem d30_2 : decode jdk_42_method_158_code 2 = .ok (.iload_n 2, 1) := by decide +kernel
theorem d30_3 : decode jdk_42_method_158_code 3 = .ok (.getstatic 1053, 3) := by decide +kernel
theorem d30_6 : decode jdk_42_method_158_code 6 = .ok (.invokestatic 1062, 3) := by decide +kernel
theorem d30_9 : decode jdk_42_method_158_code 9 = .ok (.pop, 1) := by decide +kernel
theorem d30_10 : decode jdk_42_method_158_code 10 = .ok (.return_, 1) := by decide +kernel
theorem d12_0 : decode jdk_43_method_22_code 0 = .ok (.iload_n 1, 1) := by decide +kernel
theorem d12_1 : decode jdk_43_method_22_code 1 = .ok (.invokestatic 88, 3) := by decide +kernel
theorem d12_4 : decode jdk_43_method_22_code 4 = .ok (.ifCond .ne 5, 3) := by decide +kernel
theorem d12_9 : decode jdk_43_method_22_code 9 = .ok (.iload_n 2, 1) := by decide +kernel
theorem d12_10 : decode jdk_43_method_22_code 10 = .ok (.iconst 0, 1) := by decide +kernel
theorem d12_11 : decode jdk_43_method_22_code 11 = .ok (.invokestatic 92, 3) := by decide +kernel
theorem d12_14 : decode jdk_43_method_22_code 14 = .ok (.istore_n 2, 1) := by decide +kernel
theorem d12_15 : decode jdk_43_method_22_code 15 = .ok (.iload_n 3, 1) := by decide +kernel
theorem d12_16 : decode jdk_43_method_22_code 16 = .ok (.aload_n 0, 1) := by decide +kernel
theorem d12_17 : decode jdk_43_method_22_code 17 = .ok (.arraylength, 1) := by decide +kernel
theorem d12_18 : decode jdk_43_method_22_code 18 = .ok (.invokestatic 38, 3) := by decide +kernel
theorem d12_21 : decode jdk_43_method_22_code 21 = .ok (.istore_n 3, 1) := by decide +kernel
theorem d12_22 : decode jdk_43_method_22_code 22 = .ok (.iload_n 2, 1) := by decide +kernel
theorem d12_23 : decode jdk_43_method_22_code 23 = .ok (.iload_n 3, 1) := by decide +kernel
theorem d12_24 : decode jdk_43_method_22_code 24 = .ok (.if_icmp .lt 5, 3) := by decide +kernel
theorem d12_27 : decode jdk_43_method_22_code 27 = .ok (.iconst (-1), 1) := by decide +kernel
theorem d12_28 : decode jdk_43_method_22_code 28 = .ok (.ireturn, 1) := by decide +kernel
theorem d20_0 : decode jdk_43_method_23_code 0 = .ok (.iload_n 1, 1) := by decide +kernel
theorem d20_1 : decode jdk_43_method_23_code 1 = .ok (.i2b, 1) := by decide +kernel
theorem d20_2 : decode jdk_43_method_23_code 2 = .ok (.istore 4, 2) := by decide +kernel
theorem d20_4 : decode jdk_43_method_23_code 4 = .ok (.iload_n 2, 1) := by decide +kernel
theorem d20_5 : decode jdk_43_method_23_code 5 = .ok (.istore 5, 2) := by decide +kernel
theorem d20_7 : decode jdk_43_method_23_code 7 = .ok (.iload 5, 2) := by decide +kernel
theorem d20_9 : decode jdk_43_method_23_code 9 = .ok (.iload_n 3, 1) := by decide +kernel
theorem d20_10 : decode jdk_43_method_23_code 10 = .ok (.if_icmp .ge 21, 3) := by decide +kernel
theorem d20_13 : decode jdk_43_method_23_code 13 = .ok (.aload_n 0, 1) := by decide +kernel
theorem d20_14 : decode jdk_43_method_23_code 14 = .ok (.iload 5, 2) := by decide +kernel
theorem d20_16 : decode jdk_43_method_23_code 16 = .ok (.baload, 1) := by decide +kernel
theorem d20_17 : decode jdk_43_method_23_code 17 = .ok (.iload 4, 2) := by decide +kernel
theorem d20_19 : decode jdk_43_method_23_code 19 = .ok (.if_icmp .ne 6, 3) := by decide +kernel
theorem d20_22 : decode jdk_43_method_23_code 22 = .ok (.iload 5, 2) := by decide +kernel
theorem d20_24 : decode jdk_43_method_23_code 24 = .ok (.ireturn, 1) := by decide +kernel
theorem d20_25 : decode jdk_43_method_23_code 25 = .ok (.iinc 5 1, 3) := by decide +kernel
theorem d20_28 : decode jdk_43_method_23_code 28 = .ok (.goto (-21), 3) := by decide +kernel
theorem d20_31 : decode jdk_43_method_23_code 31 = .ok (.iconst (-1), 1) := by decide +kernel
theorem d20_32 : decode jdk_43_method_23_code 32 = .ok (.ireturn, 1) := by decide +kernel
theorem d12_29 : decode jdk_43_method_22_code 29 = .ok (.aload_n 0, 1) := by decide +kernel
theorem d12_30 : decode jdk_43_method_22_code 30 = .ok (.iload_n 1, 1) := by decide +kernel
theorem d12_31 : decode jdk_43_method_22_code 31 = .ok (.iload_n 2, 1) := by decide +kernel
theorem d12_32 : decode jdk_43_method_22_code 32 = .ok (.iload_n 3, 1) := by decide +kernel
theorem d12_33 : decode jdk_43_method_22_code 33 = .ok (.invokestatic 95, 3) := by decide +kernel
theorem d12_36 : decode jdk_43_method_22_code 36 = .ok (.ireturn, 1) := by decide +kernel
theorem d32_0 : decode jdk_52_method_48_code 0 = .ok (.iload_n 2, 1) := by decide +kernel
theorem d32_1 : decode jdk_52_method_48_code 1 = .ok (.istore 4, 2) := by decide +kernel
theorem d32_3 : decode jdk_52_method_48_code 3 = .ok (.iload 4, 2) := by decide +kernel
theorem d32_5 : decode jdk_52_method_48_code 5 = .ok (.iload_n 3, 1) := by decide +kernel
theorem d32_6 : decode jdk_52_method_48_code 6 = .ok (.if_icmp .ge 22, 3) := by decide +kernel
theorem d32_9 : decode jdk_52_method_48_code 9 = .ok (.aload_n 0, 1) := by decide +kernel
theorem d32_10 : decode jdk_52_method_48_code 10 = .ok (.iload 4, 2) := by decide +kernel
theorem d32_12 : decode jdk_52_method_48_code 12 = .ok (.invokestatic 71, 3) := by decide +kernel
theorem d32_15 : decode jdk_52_method_48_code 15 = .ok (.iload_n 1, 1) := by decide +kernel
theorem d32_16 : decode jdk_52_method_48_code 16 = .ok (.if_icmp .ne 6, 3) := by decide +kernel
theorem d32_19 : decode jdk_52_method_48_code 19 = .ok (.iload 4, 2) := by decide +kernel
theorem d32_21 : decode jdk_52_method_48_code 21 = .ok (.ireturn, 1) := by decide +kernel
theorem d32_22 : decode jdk_52_method_48_code 22 = .ok (.iinc 4 1, 3) := by decide +kernel
theorem d32_25 : decode jdk_52_method_48_code 25 = .ok (.goto (-22), 3) := by decide +kernel
theorem d32_28 : decode jdk_52_method_48_code 28 = .ok (.iconst (-1), 1) := by decide +kernel
theorem d32_29 : decode jdk_52_method_48_code 29 = .ok (.ireturn, 1) := by decide +kernel
theorem d29_0 : decode jdk_52_method_6_code 0 = .ok (.aload_n 0, 1) := by decide +kernel
theorem d29_1 : decode jdk_52_method_6_code 1 = .ok (.arraylength, 1) := by decide +kernel
theorem d29_2 : decode jdk_52_method_6_code 2 = .ok (.iconst 1, 1) := by decide +kernel
theorem d29_3 : decode jdk_52_method_6_code 3 = .ok (.ishr, 1) := by decide +kernel
theorem d29_4 : decode jdk_52_method_6_code 4 = .ok (.ireturn, 1) := by decide +kernel
theorem d28_0 : decode jdk_52_method_93_code 0 = .ok (.iload_n 0, 1) := by decide +kernel
theorem d28_1 : decode jdk_52_method_93_code 1 = .ok (.iload_n 1, 1) := by decide +kernel
theorem d28_2 : decode jdk_52_method_93_code 2 = .ok (.aload_n 2, 1) := by decide +kernel
theorem d28_3 : decode jdk_52_method_93_code 3 = .ok (.invokestatic 48, 3) := by decide +kernel
theorem d28_6 : decode jdk_52_method_93_code 6 = .ok (.invokestatic 241, 3) := by decide +kernel
theorem d28_9 : decode jdk_52_method_93_code 9 = .ok (.return_, 1) := by decide +kernel
theorem d27_0 : decode jdk_52_method_47_code 0 = .ok (.iload_n 2, 1) := by decide +kernel
theorem d27_1 : decode jdk_52_method_47_code 1 = .ok (.iload_n 3, 1) := by decide +kernel
theorem d27_2 : decode jdk_52_method_47_code 2 = .ok (.aload_n 0, 1) := by decide +kernel
theorem d27_3 : decode jdk_52_method_47_code 3 = .ok (.invokestatic 96, 3) := by decide +kernel
theorem d27_6 : decode jdk_52_method_47_code 6 = .ok (.aload_n 0, 1) := by decide +kernel
theorem d27_7 : decode jdk_52_method_47_code 7 = .ok (.iload_n 1, 1) := by decide +kernel
theorem d27_8 : decode jdk_52_method_47_code 8 = .ok (.iload_n 2, 1) := by decide +kernel
theorem d27_9 : decode jdk_52_method_47_code 9 = .ok (.iload_n 3, 1) := by decide +kernel
theorem d27_10 : decode jdk_52_method_47_code 10 = .ok (.invokestatic 244, 3) := by decide +kernel
theorem d27_13 : decode jdk_52_method_47_code 13 = .ok (.ireturn, 1) := by decide +kernel
theorem d26_0 : decode jdk_52_method_40_code 0 = .ok (.iload_n 2, 1) := by decide +kernel
theorem d26_1 : decode jdk_52_method_40_code 1 = .ok (.iconst 0, 1) := by decide +kernel
theorem d26_2 : decode jdk_52_method_40_code 2 = .ok (.invokestatic 224, 3) := by decide +kernel
theorem d26_5 : decode jdk_52_method_40_code 5 = .ok (.istore_n 2, 1) := by decide +kernel
theorem d26_6 : decode jdk_52_method_40_code 6 = .ok (.iload_n 3, 1) := by decide +kernel
theorem d26_7 : decode jdk_52_method_40_code 7 = .ok (.aload_n 0, 1) := by decide +kernel
theorem d26_8 : decode jdk_52_method_40_code 8 = .ok (.arraylength, 1) := by decide +kernel
theorem d26_9 : decode jdk_52_method_40_code 9 = .ok (.iconst 1, 1) := by decide +kernel
theorem d26_10 : decode jdk_52_method_40_code 10 = .ok (.ishr, 1) := by decide +kernel
theorem d26_11 : decode jdk_52_method_40_code 11 = .ok (.invokestatic 183, 3) := by decide +kernel
theorem d26_14 : decode jdk_52_method_40_code 14 = .ok (.istore_n 3, 1) := by decide +kernel
theorem d26_15 : decode jdk_52_method_40_code 15 = .ok (.iload_n 2, 1) := by decide +kernel
theorem d26_16 : decode jdk_52_method_40_code 16 = .ok (.iload_n 3, 1) := by decide +kernel
theorem d26_17 : decode jdk_52_method_40_code 17 = .ok (.if_icmp .lt 5, 3) := by decide +kernel
theorem d26_22 : decode jdk_52_method_40_code 22 = .ok (.iload_n 1, 1) := by decide +kernel
theorem d26_23 : decode jdk_52_method_40_code 23 = .ok (.ldc 227, 2) := by decide +kernel
theorem d26_25 : decode jdk_52_method_40_code 25 = .ok (.if_icmp .ge 11, 3) := by decide +kernel
theorem d26_28 : decode jdk_52_method_40_code 28 = .ok (.aload_n 0, 1) := by decide +kernel
theorem d26_29 : decode jdk_52_method_40_code 29 = .ok (.iload_n 1, 1) := by decide +kernel
theorem d26_30 : decode jdk_52_method_40_code 30 = .ok (.iload_n 2, 1) := by decide +kernel
theorem d26_31 : decode jdk_52_method_40_code 31 = .ok (.iload_n 3, 1) := by decide +kernel
theorem d26_32 : decode jdk_52_method_40_code 32 = .ok (.invokestatic 228, 3) := by decide +kernel
theorem d26_35 : decode jdk_52_method_40_code 35 = .ok (.ireturn, 1) := by decide +kernel
theorem d8_0 : decode jdk_42_method_80_code 0 = .ok (.aload_n 0, 1) := by decide +kernel
theorem d8_1 : decode jdk_42_method_80_code 1 = .ok (.invokevirtual 492, 3) := by decide +kernel
theorem d8_4 : decode jdk_42_method_80_code 4 = .ok (.ifCond .eq 19, 3) := by decide +kernel
theorem d8_7 : decode jdk_42_method_80_code 7 = .ok (.aload_n 0, 1) := by decide +kernel
theorem d8_8 : decode jdk_42_method_80_code 8 = .ok (.getfield 9, 3) := by decide +kernel
theorem d8_11 : decode jdk_42_method_80_code 11 = .ok (.iload_n 1, 1) := by decide +kernel
theorem d8_12 : decode jdk_42_method_80_code 12 = .ok (.iload_n 2, 1) := by decide +kernel
theorem d8_13 : decode jdk_42_method_80_code 13 = .ok (.aload_n 0, 1) := by decide +kernel
theorem d8_14 : decode jdk_42_method_80_code 14 = .ok (.invokevirtual 505, 3) := by decide +kernel
theorem d8_17 : decode jdk_42_method_80_code 17 = .ok (.invokestatic 637, 3) := by decide +kernel
theorem d8_20 : decode jdk_42_method_80_code 20 = .ok (.goto 16, 3) := by decide +kernel
theorem d8_36 : decode jdk_42_method_80_code 36 = .ok (.ireturn, 1) := by decide +kernel
theorem d8_23 : decode jdk_42_method_80_code 23 = .ok (.aload_n 0, 1) := by decide +kernel
theorem d8_24 : decode jdk_42_method_80_code 24 = .ok (.getfield 9, 3) := by decide +kernel
theorem d8_27 : decode jdk_42_method_80_code 27 = .ok (.iload_n 1, 1) := by decide +kernel
theorem d8_28 : decode jdk_42_method_80_code 28 = .ok (.iload_n 2, 1) := by decide +kernel
theorem d8_29 : decode jdk_42_method_80_code 29 = .ok (.aload_n 0, 1) := by decide +kernel
theorem d8_30 : decode jdk_42_method_80_code 30 = .ok (.invokevirtual 505, 3) := by decide +kernel
theorem d8_33 : decode jdk_42_method_80_code 33 = .ok (.invokestatic 640, 3) := by decide +kernel
theorem d7_0 : decode jdk_42_method_79_code 0 = .ok (.aload_n 0, 1) := by decide +kernel
theorem d7_1 : decode jdk_42_method_79_code 1 = .ok (.iload_n 1, 1) := by decide +kernel
theorem d7_2 : decode jdk_42_method_79_code 2 = .ok (.iconst 0, 1) := by decide +kernel
theorem d7_3 : decode jdk_42_method_79_code 3 = .ok (.invokevirtual 633, 3) := by decide +kernel
theorem d7_6 : decode jdk_42_method_79_code 6 = .ok (.ireturn, 1) := by decide +kernel
theorem d6_0 : decode prog_47_method_4_code 0 = .ok (.aload_n 0, 1) := by decide +kernel
theorem d6_1 : decode prog_47_method_4_code 1 = .ok (.bipush 9, 2) := by decide +kernel
theorem d6_3 : decode prog_47_method_4_code 3 = .ok (.invokevirtual 49, 3) := by decide +kernel
theorem d6_6 : decode prog_47_method_4_code 6 = .ok (.ifCond .ge 25, 3) := by decide +kernel
theorem d6_9 : decode prog_47_method_4_code 9 = .ok (.aload_n 0, 1) := by decide +kernel
theorem d6_10 : decode prog_47_method_4_code 10 = .ok (.bipush 10, 2) := by decide +kernel
theorem d6_12 : decode prog_47_method_4_code 12 = .ok (.invokevirtual 49, 3) := by decide +kernel
theorem d6_15 : decode prog_47_method_4_code 15 = .ok (.ifCond .ge 16, 3) := by decide +kernel
theorem d6_18 : decode prog_47_method_4_code 18 = .ok (.aload_n 0, 1) := by decide +kernel
theorem d6_19 : decode prog_47_method_4_code 19 = .ok (.bipush 13, 2) := by decide +kernel
theorem d6_21 : decode prog_47_method_4_code 21 = .ok (.invokevirtual 49, 3) := by decide +kernel
theorem d6_24 : decode prog_47_method_4_code 24 = .ok (.ifCond .ge 7, 3) := by decide +kernel
theorem d6_27 : decode prog_47_method_4_code 27 = .ok (.iconst 1, 1) := by decide +kernel
theorem d6_28 : decode prog_47_method_4_code 28 = .ok (.goto 4, 3) := by decide +kernel
theorem d6_32 : decode prog_47_method_4_code 32 = .ok (.ireturn, 1) := by decide +kernel
theorem d6_31 : decode prog_47_method_4_code 31 = .ok (.iconst 0, 1) := by decide +kernel
theorem d1_0 : decode method_2_code 0 = .ok (.iload_n 0, 1) := by decide +kernel
theorem d1_1 : decode method_2_code 1 = .ok (.iconst 3, 1) := by decide +kernel
theorem d1_2 : decode method_2_code 2 = .ok (.iand, 1) := by decide +kernel
theorem d1_3 : decode method_2_code 3 = .ok (.ifCond .ne 11, 3) := by decide +kernel
theorem d1_6 : decode method_2_code 6 = .ok (.iload_n 0, 1) := by decide +kernel
theorem d1_7 : decode method_2_code 7 = .ok (.iconst 2, 1) := by decide +kernel
theorem d1_8 : decode method_2_code 8 = .ok (.iushr, 1) := by decide +kernel
theorem d1_9 : decode method_2_code 9 = .ok (.bipush 15, 2) := by decide +kernel
theorem d1_11 : decode method_2_code 11 = .ok (.iand, 1) := by decide +kernel
theorem d1_12 : decode method_2_code 12 = .ok (.i2c, 1) := by decide +kernel
theorem d1_13 : decode method_2_code 13 = .ok (.ireturn, 1) := by decide +kernel
theorem d1_14 : decode method_2_code 14 = .ok (.iload_n 0, 1) := by decide +kernel
theorem d1_15 : decode method_2_code 15 = .ok (.iconst 2, 1) := by decide +kernel
theorem d1_16 : decode method_2_code 16 = .ok (.iushr, 1) := by decide +kernel
theorem d1_17 : decode method_2_code 17 = .ok (.ldc 7, 2) := by decide +kernel
theorem d1_19 : decode method_2_code 19 = .ok (.iand, 1) := by decide +kernel
theorem d1_20 : decode method_2_code 20 = .ok (.i2c, 1) := by decide +kernel
theorem d1_21 : decode method_2_code 21 = .ok (.ireturn, 1) := by decide +kernel
theorem d19_0 : decode method_3_code 0 = .ok (.iload_n 0, 1) := by decide +kernel
theorem d19_1 : decode method_3_code 1 = .ok (.bipush 9, 2) := by decide +kernel
theorem d19_3 : decode method_3_code 3 = .ok (.if_icmp .eq 15, 3) := by decide +kernel
theorem d19_18 : decode method_3_code 18 = .ok (.iconst 1, 1) := by decide +kernel
theorem d19_19 : decode method_3_code 19 = .ok (.goto 4, 3) := by decide +kernel
theorem d19_23 : decode method_3_code 23 = .ok (.ireturn, 1) := by decide +kernel
theorem d19_6 : decode method_3_code 6 = .ok (.iload_n 0, 1) := by decide +kernel
theorem d19_7 : decode method_3_code 7 = .ok (.bipush 10, 2) := by decide +kernel
theorem d19_9 : decode method_3_code 9 = .ok (.if_icmp .eq 9, 3) := by decide +kernel
theorem d19_12 : decode method_3_code 12 = .ok (.iload_n 0, 1) := by decide +kernel
theorem d19_13 : decode method_3_code 13 = .ok (.bipush 13, 2) := by decide +kernel
theorem d19_15 : decode method_3_code 15 = .ok (.if_icmp .ne 7, 3) := by decide +kernel
theorem d19_22 : decode method_3_code 22 = .ok (.iconst 0, 1) := by decide +kernel
theorem d2_0 : decode method_4_code 0 = .ok (.iload_n 0, 1) := by decide +kernel
theorem d2_1 : decode method_4_code 1 = .ok (.ifCond .ne 14, 3) := by decide +kernel
theorem d2_4 : decode method_4_code 4 = .ok (.new 8, 3) := by decide +kernel
theorem d2_7 : decode method_4_code 7 = .ok (.dup, 1) := by decide +kernel
theorem d2_8 : decode method_4_code 8 = .ok (.iconst 0, 1) := by decide +kernel
theorem d2_9 : decode method_4_code 9 = .ok (.newarray .char, 2) := by decide +kernel
theorem d2_11 : decode method_4_code 11 = .ok (.invokespecial 10, 3) := by decide +kernel
theorem d2_14 : decode method_4_code 14 = .ok (.areturn, 1) := by decide +kernel
theorem d2_15 : decode method_4_code 15 = .ok (.iload_n 0, 1) := by decide +kernel
theorem d2_16 : decode method_4_code 16 = .ok (.iconst 1, 1) := by decide +kernel
theorem d2_17 : decode method_4_code 17 = .ok (.if_icmp .ne 18, 3) := by decide +kernel
theorem d2_20 : decode method_4_code 20 = .ok (.new 8, 3) := by decide +kernel
theorem d2_23 : decode method_4_code 23 = .ok (.dup, 1) := by decide +kernel
theorem d2_24 : decode method_4_code 24 = .ok (.iconst 1, 1) := by decide +kernel
theorem d2_25 : decode method_4_code 25 = .ok (.newarray .char, 2) := by decide +kernel
theorem d2_27 : decode method_4_code 27 = .ok (.dup, 1) := by decide +kernel
theorem d2_28 : decode method_4_code 28 = .ok (.iconst 0, 1) := by decide +kernel
theorem d2_29 : decode method_4_code 29 = .ok (.iload_n 1, 1) := by decide +kernel
theorem d2_30 : decode method_4_code 30 = .ok (.castore, 1) := by decide +kernel
theorem d2_31 : decode method_4_code 31 = .ok (.invokespecial 10, 3) := by decide +kernel
theorem d2_34 : decode method_4_code 34 = .ok (.areturn, 1) := by decide +kernel
theorem d2_35 : decode method_4_code 35 = .ok (.iload_n 0, 1) := by decide +kernel
theorem d2_36 : decode method_4_code 36 = .ok (.iconst 2, 1) := by decide +kernel
theorem d2_37 : decode method_4_code 37 = .ok (.if_icmp .ne 22, 3) := by decide +kernel
theorem d2_40 : decode method_4_code 40 = .ok (.new 8, 3) := by decide +kernel
theorem d2_43 : decode method_4_code 43 = .ok (.dup, 1) := by decide +kernel
theorem d2_44 : decode method_4_code 44 = .ok (.iconst 2, 1) := by decide +kernel
theorem d2_45 : decode method_4_code 45 = .ok (.newarray .char, 2) := by decide +kernel
theorem d2_47 : decode method_4_code 47 = .ok (.dup, 1) := by decide +kernel
theorem d2_48 : decode method_4_code 48 = .ok (.iconst 0, 1) := by decide +kernel
theorem d2_49 : decode method_4_code 49 = .ok (.iload_n 1, 1) := by decide +kernel
theorem d2_50 : decode method_4_code 50 = .ok (.castore, 1) := by decide +kernel
theorem d2_51 : decode method_4_code 51 = .ok (.dup, 1) := by decide +kernel
theorem d2_52 : decode method_4_code 52 = .ok (.iconst 1, 1) := by decide +kernel
theorem d2_53 : decode method_4_code 53 = .ok (.iload_n 2, 1) := by decide +kernel
theorem d2_54 : decode method_4_code 54 = .ok (.castore, 1) := by decide +kernel
theorem d2_55 : decode method_4_code 55 = .ok (.invokespecial 10, 3) := by decide +kernel
theorem d2_58 : decode method_4_code 58 = .ok (.areturn, 1) := by decide +kernel
theorem d2_59 : decode method_4_code 59 = .ok (.new 8, 3) := by decide +kernel
theorem d2_62 : decode method_4_code 62 = .ok (.dup, 1) := by decide +kernel
theorem d2_63 : decode method_4_code 63 = .ok (.iconst 3, 1) := by decide +kernel
theorem d2_64 : decode method_4_code 64 = .ok (.newarray .char, 2) := by decide +kernel
theorem d2_66 : decode method_4_code 66 = .ok (.dup, 1) := by decide +kernel
theorem d2_67 : decode method_4_code 67 = .ok (.iconst 0, 1) := by decide +kernel
theorem d2_68 : decode method_4_code 68 = .ok (.iload_n 1, 1) := by decide +kernel
theorem d2_69 : decode method_4_code 69 = .ok (.castore, 1) := by decide +kernel
theorem d2_70 : decode method_4_code 70 = .ok (.dup, 1) := by decide +kernel
theorem d2_71 : decode method_4_code 71 = .ok (.iconst 1, 1) := by decide +kernel
theorem d2_72 : decode method_4_code 72 = .ok (.iload_n 2, 1) := by decide +kernel
theorem d2_73 : decode method_4_code 73 = .ok (.castore, 1) := by decide +kernel
theorem d2_74 : decode method_4_code 74 = .ok (.dup, 1) := by decide +kernel
theorem d2_75 : decode method_4_code 75 = .ok (.iconst 2, 1) := by decide +kernel
theorem d2_76 : decode method_4_code 76 = .ok (.iload_n 3, 1) := by decide +kernel
theorem d2_77 : decode method_4_code 77 = .ok (.castore, 1) := by decide +kernel
theorem d2_78 : decode method_4_code 78 = .ok (.invokespecial 10, 3) := by decide +kernel
theorem d2_81 : decode method_4_code 81 = .ok (.areturn, 1) := by decide +kernel
theorem pd0 : parseMethodDescriptor "([CIILjava/lang/Void;)V" = some ⟨[(.array .char), .int, .int, (.object "java/lang/Void")], none⟩ := by decide +kernel
theorem pd1 : parseMethodDescriptor "(I)I" = some ⟨[.int], some .int⟩ := by decide +kernel
theorem pd2 : parseMethodDescriptor "(I)[B" = some ⟨[.int], some (.array .byte)⟩ := by decide +kernel
theorem pd3 : parseMethodDescriptor "([BII)V" = some ⟨[(.array .byte), .int, .int], none⟩ := by decide +kernel
theorem pd4 : parseMethodDescriptor "([CI[BII)I" = some ⟨[(.array .char), .int, (.array .byte), .int, .int], some .int⟩ := by decide +kernel
theorem pd5 : parseMethodDescriptor "([CII)[B" = some ⟨[(.array .char), .int, .int], some (.array .byte)⟩ := by decide +kernel
theorem pd6 : parseMethodDescriptor "([BI)C" = some ⟨[(.array .byte), .int], some .char⟩ := by decide +kernel
theorem pd7 : parseMethodDescriptor "([BI)B" = some ⟨[(.array .byte), .int], some .byte⟩ := by decide +kernel
theorem pd8 : parseMethodDescriptor "(IIILjava/util/function/BiFunction;)I" = some ⟨[.int, .int, .int, (.object "java/util/function/BiFunction")], some .int⟩ := by decide +kernel
theorem pd9 : parseMethodDescriptor "(I)Z" = some ⟨[.int], some .boolean⟩ := by decide +kernel
theorem pd10 : parseMethodDescriptor "(II)I" = some ⟨[.int, .int], some .int⟩ := by decide +kernel
theorem pd11 : parseMethodDescriptor "([BIII)I" = some ⟨[(.array .byte), .int, .int, .int], some .int⟩ := by decide +kernel
theorem pd12 : parseMethodDescriptor "([B)I" = some ⟨[(.array .byte)], some .int⟩ := by decide +kernel
theorem pd13 : parseMethodDescriptor "(III)V" = some ⟨[.int, .int, .int], none⟩ := by decide +kernel
theorem pd14 : parseMethodDescriptor "(II[B)V" = some ⟨[.int, .int, (.array .byte)], none⟩ := by decide +kernel
theorem pd15 : parseMethodDescriptor "()Z" = some ⟨[], some .boolean⟩ := by decide +kernel
theorem pd16 : parseMethodDescriptor "()I" = some ⟨[], some .int⟩ := by decide +kernel
theorem pd17 : parseMethodDescriptor "([C)V" = some ⟨[(.array .char)], none⟩ := by decide +kernel
theorem pd18 : parseMethodDescriptor "(I)C" = some ⟨[.int], some .char⟩ := by decide +kernel
theorem pd19 : parseMethodDescriptor "(ICCC)Ljava/lang/String;" = some ⟨[.int, .char, .char, .char], some (.object "java/lang/String")⟩ := by decide +kernel
theorem pd20 : parseMethodDescriptor "(Ljava/lang/String;)Z" = some ⟨[(.object "java/lang/String")], some .boolean⟩ := by decide +kernel
theorem pd21 : parseMethodDescriptor "(C)Z" = some ⟨[.char], some .boolean⟩ := by decide +kernel
theorem pn0 : plainName "java/lang/String" = true := by first | (simp [plainName, overriddenIn]; done) | decide +kernel
theorem pn1 : plainName "java/lang/StringUTF16" = true := by first | (simp [plainName, overriddenIn]; done) | decide +kernel
theorem pn2 : plainName "java/lang/StringLatin1" = true := by first | (simp [plainName, overriddenIn]; done) | decide +kernel
theorem pf14 : plainFor (⟨"java/lang/Math", "max", "(II)I"⟩ : MethodName) = true := by first | decide +kernel | rfl
theorem pf15 : plainFor (⟨"java/lang/Math", "min", "(II)I"⟩ : MethodName) = true := by first | decide +kernel | rfl
theorem pn5 : plainName "jdk/internal/util/Preconditions" = true := by first | (simp [plainName, overriddenIn]; done) | decide +kernel
theorem pn6 : plainName "com/example/treegraft/treegraft/files/TextFiles" = true := by first | (simp [plainName, overriddenIn]; done) | decide +kernel
theorem pn7 : plainName "com/example/treegraft/treegraft/files/TextFilesIsFieldPinLaw" = true := by first | (simp [plainName, overriddenIn]; done) | decide +kernel
theorem wd0 {Z : State} {a0 : Array Value} (hw : ∀ d ∈ tables_1, d.before a0 Z = true) : (Jvm.Cond.methodLink "com/example/treegraft/treegraft/files/TextFilesIsFieldPinLaw" (13 : Nat) ({ cls := "com/example/treegraft/treegraft/files/TextFilesIsFieldPinLaw", name := "draw", desc := "(I)C" } : Jvm.MethodName)).before a0 Z = true := hw _ (List.mem_of_getElem? (i := 0) rfl)
theorem wd1 {Z : State} {a0 : Array Value} (hw : ∀ d ∈ tables_1, d.before a0 Z = true) : (Jvm.Cond.static ({ cls := "com/example/treegraft/treegraft/files/TextFilesIsFieldPinLaw", name := "draw", desc := "(I)C" } : Jvm.MethodName)).before a0 Z = true := hw _ (List.mem_of_getElem? (i := 1) rfl)
theorem wd2 {Z : State} {a0 : Array Value} (hw : ∀ d ∈ tables_1, d.before a0 Z = true) : (Jvm.Cond.initialized "com/example/treegraft/treegraft/files/TextFilesIsFieldPinLaw").before a0 Z = true := hw _ (List.mem_of_getElem? (i := 2) rfl)
theorem wd3 {Z : State} {a0 : Array Value} (hw : ∀ d ∈ tables_1, d.before a0 Z = true) : (Jvm.Cond.code ({ cls := "com/example/treegraft/treegraft/files/TextFilesIsFieldPinLaw", name := "draw", desc := "(I)C" } : Jvm.MethodName) method_2_code (1 : Nat) (Option.some Jvm.ClassFile.FieldType.char)).before a0 Z = true := hw _ (List.mem_of_getElem? (i := 3) rfl)
theorem wd4 {Z : State} {a0 : Array Value} (hw : ∀ d ∈ tables_1, d.before a0 Z = true) : (Jvm.Cond.constant "com/example/treegraft/treegraft/files/TextFilesIsFieldPinLaw" (7 : Nat) (65535 : Int32)).before a0 Z = true := hw _ (List.mem_of_getElem? (i := 4) rfl)
theorem wd5 {Z : State} {a0 : Array Value} (hw : ∀ d ∈ tables_1, d.before a0 Z = true) : (Jvm.Cond.methodLink "com/example/treegraft/treegraft/files/TextFilesIsFieldPinLaw" (19 : Nat) ({ cls := "com/example/treegraft/treegraft/files/TextFilesIsFieldPinLaw", name := "make", desc := "(ICCC)Ljava/lang/String;" } : Jvm.MethodName)).before a0 Z = true := hw _ (List.mem_of_getElem? (i := 5) rfl)
theorem wd6 {Z : State} {a0 : Array Value} (hw : ∀ d ∈ tables_1, d.before a0 Z = true) : (Jvm.Cond.static ({ cls := "com/example/treegraft/treegraft/files/TextFilesIsFieldPinLaw", name := "make", desc := "(ICCC)Ljava/lang/String;" } : Jvm.MethodName)).before a0 Z = true := hw _ (List.mem_of_getElem? (i := 6) rfl)
theorem wd7 {Z : State} {a0 : Array Value} (hw : ∀ d ∈ tables_1, d.before a0 Z = true) : (Jvm.Cond.code ({ cls := "com/example/treegraft/treegraft/files/TextFilesIsFieldPinLaw", name := "make", desc := "(ICCC)Ljava/lang/String;" } : Jvm.MethodName) method_4_code (4 : Nat) (Option.some (Jvm.ClassFile.FieldType.object "java/lang/String"))).before a0 Z = true := hw _ (List.mem_of_getElem? (i := 7) rfl)
theorem wd8 {Z : State} {a0 : Array Value} (hw : ∀ d ∈ tables_1, d.before a0 Z = true) : (Jvm.Cond.classLink "com/example/treegraft/treegraft/files/TextFilesIsFieldPinLaw" (8 : Nat) "java/lang/String").before a0 Z = true := hw _ (List.mem_of_getElem? (i := 8) rfl)
theorem wd9 {Z : State} {a0 : Array Value} (hw : ∀ d ∈ tables_1, d.before a0 Z = true) : (Jvm.Cond.instantiable "java/lang/String" (4 : Nat)).before a0 Z = true := hw _ (List.mem_of_getElem? (i := 9) rfl)
theorem wd10 {Z : State} {a0 : Array Value} (hw : ∀ d ∈ tables_1, d.before a0 Z = true) : (Jvm.Cond.initialized "java/lang/String").before a0 Z = true := hw _ (List.mem_of_getElem? (i := 10) rfl)
theorem wd11 {Z : State} {a0 : Array Value} (hw : ∀ d ∈ tables_1, d.before a0 Z = true) : (Jvm.Cond.arrayClass Jvm.ClassFile.FieldType.char).before a0 Z = true := hw _ (List.mem_of_getElem? (i := 11) rfl)
theorem wd12 {Z : State} {a0 : Array Value} (hw : ∀ d ∈ tables_1, d.before a0 Z = true) : (Jvm.Cond.methodLink "com/example/treegraft/treegraft/files/TextFilesIsFieldPinLaw" (10 : Nat) ({ cls := "java/lang/String", name := "<init>", desc := "([C)V" } : Jvm.MethodName)).before a0 Z = true := hw _ (List.mem_of_getElem? (i := 12) rfl)
theorem wd13 {Z : State} {a0 : Array Value} (hw : ∀ d ∈ tables_1, d.before a0 Z = true) : (Jvm.Cond.instanceMethod ({ cls := "java/lang/String", name := "<init>", desc := "([C)V" } : Jvm.MethodName)).before a0 Z = true := hw _ (List.mem_of_getElem? (i := 13) rfl)
theorem wd14 {Z : State} {a0 : Array Value} (hw : ∀ d ∈ tables_1, d.before a0 Z = true) : (Jvm.Cond.code ({ cls := "java/lang/String", name := "<init>", desc := "([C)V" } : Jvm.MethodName) jdk_42_method_3_code (2 : Nat) (Option.none : Option Jvm.ClassFile.FieldType)).before a0 Z = true := hw _ (List.mem_of_getElem? (i := 14) rfl)
theorem wd15 {Z : State} {a0 : Array Value} (hw : ∀ d ∈ tables_1, d.before a0 Z = true) : (Jvm.Cond.methodLink "java/lang/String" (27 : Nat) ({ cls := "java/lang/String", name := "<init>", desc := "([CIILjava/lang/Void;)V" } : Jvm.MethodName)).before a0 Z = true := hw _ (List.mem_of_getElem? (i := 15) rfl)
theorem wd16 {Z : State} {a0 : Array Value} (hw : ∀ d ∈ tables_1, d.before a0 Z = true) : (Jvm.Cond.instanceMethod ({ cls := "java/lang/String", name := "<init>", desc := "([CIILjava/lang/Void;)V" } : Jvm.MethodName)).before a0 Z = true := hw _ (List.mem_of_getElem? (i := 16) rfl)
theorem wd18 {Z : State} {a0 : Array Value} (hw : ∀ d ∈ tables_1, d.before a0 Z = true) : (Jvm.Cond.code ({ cls := "java/lang/String", name := "<init>", desc := "([CIILjava/lang/Void;)V" } : Jvm.MethodName) jdk_42_method_149_code (6 : Nat) (Option.none : Option Jvm.ClassFile.FieldType)).before a0 Z = true := hw _ (List.mem_of_getElem? (i := 18) rfl)
theorem wd19 {Z : State} {a0 : Array Value} (hw : ∀ d ∈ tables_1, d.before a0 Z = true) : (Jvm.Cond.methodLink "java/lang/String" (1 : Nat) ({ cls := "java/lang/Object", name := "<init>", desc := "()V" } : Jvm.MethodName)).before a0 Z = true := hw _ (List.mem_of_getElem? (i := 19) rfl)
theorem wd20 {Z : State} {a0 : Array Value} (hw : ∀ d ∈ tables_1, d.before a0 Z = true) : (Jvm.Cond.instanceMethod ({ cls := "java/lang/Object", name := "<init>", desc := "()V" } : Jvm.MethodName)).before a0 Z = true := hw _ (List.mem_of_getElem? (i := 20) rfl)
theorem wd21 {Z : State} {a0 : Array Value} (hw : ∀ d ∈ tables_1, d.before a0 Z = true) : (Jvm.Cond.code ({ cls := "java/lang/Object", name := "<init>", desc := "()V" } : Jvm.MethodName) object_method_1_code (1 : Nat) (Option.none : Option Jvm.ClassFile.FieldType)).before a0 Z = true := hw _ (List.mem_of_getElem? (i := 21) rfl)
theorem wd22 {Z : State} {a0 : Array Value} (hw : ∀ d ∈ tables_1, d.before a0 Z = true) : (Jvm.Cond.stringLink "java/lang/String" (7 : Nat) "").before a0 Z = true := hw _ (List.mem_of_getElem? (i := 22) rfl)
theorem wd23 {Z : State} {a0 : Array Value} (hw : ∀ d ∈ tables_1, d.before a0 Z = true) : (Jvm.Cond.arrayClass Jvm.ClassFile.FieldType.byte).before a0 Z = true := hw _ (List.mem_of_getElem? (i := 23) rfl)
theorem wd24 {Z : State} {a0 : Array Value} (hw : ∀ d ∈ tables_1, d.before a0 Z = true) : (Jvm.Cond.laysFinal "java/lang/String" "java/lang/String" "value" "[B").before a0 Z = true := hw _ (List.mem_of_getElem? (i := 24) rfl)
theorem wd25 {Z : State} {a0 : Array Value} (hw : ∀ d ∈ tables_1, d.before a0 Z = true) : (Jvm.Cond.laysFinal "java/lang/String" "java/lang/String" "coder" "B").before a0 Z = true := hw _ (List.mem_of_getElem? (i := 25) rfl)
theorem wd28 {Z : State} {a0 : Array Value} (hw : ∀ d ∈ tables_1, d.before a0 Z = true) : (Jvm.Cond.fieldLink "java/lang/String" (9 : Nat) "java/lang/String" "value" "[B").before a0 Z = true := hw _ (List.mem_of_getElem? (i := 28) rfl)
theorem wd29 {Z : State} {a0 : Array Value} (hw : ∀ d ∈ tables_1, d.before a0 Z = true) : (Jvm.Cond.fieldLink "java/lang/String" (15 : Nat) "java/lang/String" "coder" "B").before a0 Z = true := hw _ (List.mem_of_getElem? (i := 29) rfl)
theorem wd30 {Z : State} {a0 : Array Value} (hw : ∀ d ∈ tables_1, d.before a0 Z = true) : (Jvm.Cond.methodLink "com/example/treegraft/treegraft/files/TextFilesIsFieldPinLaw" (27 : Nat) ({ cls := "com/example/treegraft/treegraft/files/TextFiles", name := "isField", desc := "(Ljava/lang/String;)Z" } : Jvm.MethodName)).before a0 Z = true := hw _ (List.mem_of_getElem? (i := 30) rfl)
theorem wd31 {Z : State} {a0 : Array Value} (hw : ∀ d ∈ tables_1, d.before a0 Z = true) : (Jvm.Cond.static ({ cls := "com/example/treegraft/treegraft/files/TextFiles", name := "isField", desc := "(Ljava/lang/String;)Z" } : Jvm.MethodName)).before a0 Z = true := hw _ (List.mem_of_getElem? (i := 31) rfl)
theorem wd32 {Z : State} {a0 : Array Value} (hw : ∀ d ∈ tables_1, d.before a0 Z = true) : (Jvm.Cond.initialized "com/example/treegraft/treegraft/files/TextFiles").before a0 Z = true := hw _ (List.mem_of_getElem? (i := 32) rfl)
theorem wd33 {Z : State} {a0 : Array Value} (hw : ∀ d ∈ tables_1, d.before a0 Z = true) : (Jvm.Cond.code ({ cls := "com/example/treegraft/treegraft/files/TextFiles", name := "isField", desc := "(Ljava/lang/String;)Z" } : Jvm.MethodName) prog_47_method_4_code (1 : Nat) (Option.some Jvm.ClassFile.FieldType.boolean)).before a0 Z = true := hw _ (List.mem_of_getElem? (i := 33) rfl)
theorem wd34 {Z : State} {a0 : Array Value} (hw : ∀ d ∈ tables_1, d.before a0 Z = true) : (Jvm.Cond.methodLink "com/example/treegraft/treegraft/files/TextFiles" (49 : Nat) ({ cls := "java/lang/String", name := "indexOf", desc := "(I)I" } : Jvm.MethodName)).before a0 Z = true := hw _ (List.mem_of_getElem? (i := 34) rfl)
theorem wd35 {Z : State} {a0 : Array Value} (hw : ∀ d ∈ tables_1, d.before a0 Z = true) : (Jvm.Cond.declares ({ cls := "java/lang/String", name := "indexOf", desc := "(I)I" } : Jvm.MethodName)).before a0 Z = true := hw _ (List.mem_of_getElem? (i := 35) rfl)
theorem wd36 {Z : State} {a0 : Array Value} (hw : ∀ d ∈ tables_1, d.before a0 Z = true) : (Jvm.Cond.instanceMethod ({ cls := "java/lang/String", name := "indexOf", desc := "(I)I" } : Jvm.MethodName)).before a0 Z = true := hw _ (List.mem_of_getElem? (i := 36) rfl)
theorem wd37 {Z : State} {a0 : Array Value} (hw : ∀ d ∈ tables_1, d.before a0 Z = true) : (Jvm.Cond.selects "java/lang/String" ({ cls := "java/lang/String", name := "indexOf", desc := "(I)I" } : Jvm.MethodName) ({ cls := "java/lang/String", name := "indexOf", desc := "(I)I" } : Jvm.MethodName)).before a0 Z = true := hw _ (List.mem_of_getElem? (i := 37) rfl)
theorem wd38 {Z : State} {a0 : Array Value} (hw : ∀ d ∈ tables_1, d.before a0 Z = true) : (Jvm.Cond.code ({ cls := "java/lang/String", name := "indexOf", desc := "(I)I" } : Jvm.MethodName) jdk_42_method_79_code (2 : Nat) (Option.some Jvm.ClassFile.FieldType.int)).before a0 Z = true := hw _ (List.mem_of_getElem? (i := 38) rfl)
theorem wd39 {Z : State} {a0 : Array Value} (hw : ∀ d ∈ tables_1, d.before a0 Z = true) : (Jvm.Cond.methodLink "java/lang/String" (633 : Nat) ({ cls := "java/lang/String", name := "indexOf", desc := "(II)I" } : Jvm.MethodName)).before a0 Z = true := hw _ (List.mem_of_getElem? (i := 39) rfl)
theorem wd40 {Z : State} {a0 : Array Value} (hw : ∀ d ∈ tables_1, d.before a0 Z = true) : (Jvm.Cond.declares ({ cls := "java/lang/String", name := "indexOf", desc := "(II)I" } : Jvm.MethodName)).before a0 Z = true := hw _ (List.mem_of_getElem? (i := 40) rfl)
theorem wd41 {Z : State} {a0 : Array Value} (hw : ∀ d ∈ tables_1, d.before a0 Z = true) : (Jvm.Cond.instanceMethod ({ cls := "java/lang/String", name := "indexOf", desc := "(II)I" } : Jvm.MethodName)).before a0 Z = true := hw _ (List.mem_of_getElem? (i := 41) rfl)
theorem wd42 {Z : State} {a0 : Array Value} (hw : ∀ d ∈ tables_1, d.before a0 Z = true) : (Jvm.Cond.selects "java/lang/String" ({ cls := "java/lang/String", name := "indexOf", desc := "(II)I" } : Jvm.MethodName) ({ cls := "java/lang/String", name := "indexOf", desc := "(II)I" } : Jvm.MethodName)).before a0 Z = true := hw _ (List.mem_of_getElem? (i := 42) rfl)
theorem wd43 {Z : State} {a0 : Array Value} (hw : ∀ d ∈ tables_1, d.before a0 Z = true) : (Jvm.Cond.code ({ cls := "java/lang/String", name := "indexOf", desc := "(II)I" } : Jvm.MethodName) jdk_42_method_80_code (3 : Nat) (Option.some Jvm.ClassFile.FieldType.int)).before a0 Z = true := hw _ (List.mem_of_getElem? (i := 43) rfl)
theorem wd44 {Z : State} {a0 : Array Value} (hw : ∀ d ∈ tables_1, d.before a0 Z = true) : (Jvm.Cond.methodLink "java/lang/String" (492 : Nat) ({ cls := "java/lang/String", name := "isLatin1", desc := "()Z" } : Jvm.MethodName)).before a0 Z = true := hw _ (List.mem_of_getElem? (i := 44) rfl)
theorem wd45 {Z : State} {a0 : Array Value} (hw : ∀ d ∈ tables_1, d.before a0 Z = true) : (Jvm.Cond.declares ({ cls := "java/lang/String", name := "isLatin1", desc := "()Z" } : Jvm.MethodName)).before a0 Z = true := hw _ (List.mem_of_getElem? (i := 45) rfl)
theorem wd46 {Z : State} {a0 : Array Value} (hw : ∀ d ∈ tables_1, d.before a0 Z = true) : (Jvm.Cond.instanceMethod ({ cls := "java/lang/String", name := "isLatin1", desc := "()Z" } : Jvm.MethodName)).before a0 Z = true := hw _ (List.mem_of_getElem? (i := 46) rfl)
theorem wd47 {Z : State} {a0 : Array Value} (hw : ∀ d ∈ tables_1, d.before a0 Z = true) : (Jvm.Cond.selects "java/lang/String" ({ cls := "java/lang/String", name := "isLatin1", desc := "()Z" } : Jvm.MethodName) ({ cls := "java/lang/String", name := "isLatin1", desc := "()Z" } : Jvm.MethodName)).before a0 Z = true := hw _ (List.mem_of_getElem? (i := 47) rfl)
theorem wd48 {Z : State} {a0 : Array Value} (hw : ∀ d ∈ tables_1, d.before a0 Z = true) : (Jvm.Cond.code ({ cls := "java/lang/String", name := "isLatin1", desc := "()Z" } : Jvm.MethodName) jdk_42_method_154_code (1 : Nat) (Option.some Jvm.ClassFile.FieldType.boolean)).before a0 Z = true := hw _ (List.mem_of_getElem? (i := 48) rfl)
theorem wd49 {Z : State} {a0 : Array Value} (hw : ∀ d ∈ tables_1, d.before a0 Z = true) : (Jvm.Cond.fieldLink "java/lang/String" (38 : Nat) "java/lang/String" "COMPACT_STRINGS" "Z").before a0 Z = true := hw _ (List.mem_of_getElem? (i := 49) rfl)
theorem wd50 {Z : State} {a0 : Array Value} (hw : ∀ d ∈ tables_1, d.before a0 Z = true) : (Jvm.Cond.methodLink "java/lang/String" (505 : Nat) ({ cls := "java/lang/String", name := "length", desc := "()I" } : Jvm.MethodName)).before a0 Z = true := hw _ (List.mem_of_getElem? (i := 50) rfl)
theorem wd51 {Z : State} {a0 : Array Value} (hw : ∀ d ∈ tables_1, d.before a0 Z = true) : (Jvm.Cond.declares ({ cls := "java/lang/String", name := "length", desc := "()I" } : Jvm.MethodName)).before a0 Z = true := hw _ (List.mem_of_getElem? (i := 51) rfl)
theorem wd52 {Z : State} {a0 : Array Value} (hw : ∀ d ∈ tables_1, d.before a0 Z = true) : (Jvm.Cond.instanceMethod ({ cls := "java/lang/String", name := "length", desc := "()I" } : Jvm.MethodName)).before a0 Z = true := hw _ (List.mem_of_getElem? (i := 52) rfl)
theorem wd53 {Z : State} {a0 : Array Value} (hw : ∀ d ∈ tables_1, d.before a0 Z = true) : (Jvm.Cond.selects "java/lang/String" ({ cls := "java/lang/String", name := "length", desc := "()I" } : Jvm.MethodName) ({ cls := "java/lang/String", name := "length", desc := "()I" } : Jvm.MethodName)).before a0 Z = true := hw _ (List.mem_of_getElem? (i := 53) rfl)
theorem wd60 {Z : State} {a0 : Array Value} (hw : ∀ d ∈ tables_1, d.before a0 Z = true) : (Jvm.Cond.methodLink "java/lang/String" (637 : Nat) ({ cls := "java/lang/StringLatin1", name := "indexOf", desc := "([BIII)I" } : Jvm.MethodName)).before a0 Z = true := hw _ (List.mem_of_getElem? (i := 60) rfl)
theorem wd61 {Z : State} {a0 : Array Value} (hw : ∀ d ∈ tables_1, d.before a0 Z = true) : (Jvm.Cond.static ({ cls := "java/lang/StringLatin1", name := "indexOf", desc := "([BIII)I" } : Jvm.MethodName)).before a0 Z = true := hw _ (List.mem_of_getElem? (i := 61) rfl)
theorem wd62 {Z : State} {a0 : Array Value} (hw : ∀ d ∈ tables_1, d.before a0 Z = true) : (Jvm.Cond.initialized "java/lang/StringLatin1").before a0 Z = true := hw _ (List.mem_of_getElem? (i := 62) rfl)
theorem wd63 {Z : State} {a0 : Array Value} (hw : ∀ d ∈ tables_1, d.before a0 Z = true) : (Jvm.Cond.code ({ cls := "java/lang/StringLatin1", name := "indexOf", desc := "([BIII)I" } : Jvm.MethodName) jdk_43_method_22_code (4 : Nat) (Option.some Jvm.ClassFile.FieldType.int)).before a0 Z = true := hw _ (List.mem_of_getElem? (i := 63) rfl)
theorem wd64 {Z : State} {a0 : Array Value} (hw : ∀ d ∈ tables_1, d.before a0 Z = true) : (Jvm.Cond.methodLink "java/lang/StringLatin1" (88 : Nat) ({ cls := "java/lang/StringLatin1", name := "canEncode", desc := "(I)Z" } : Jvm.MethodName)).before a0 Z = true := hw _ (List.mem_of_getElem? (i := 64) rfl)
theorem wd65 {Z : State} {a0 : Array Value} (hw : ∀ d ∈ tables_1, d.before a0 Z = true) : (Jvm.Cond.static ({ cls := "java/lang/StringLatin1", name := "canEncode", desc := "(I)Z" } : Jvm.MethodName)).before a0 Z = true := hw _ (List.mem_of_getElem? (i := 65) rfl)
theorem wd66 {Z : State} {a0 : Array Value} (hw : ∀ d ∈ tables_1, d.before a0 Z = true) : (Jvm.Cond.code ({ cls := "java/lang/StringLatin1", name := "canEncode", desc := "(I)Z" } : Jvm.MethodName) jdk_43_method_4_code (1 : Nat) (Option.some Jvm.ClassFile.FieldType.boolean)).before a0 Z = true := hw _ (List.mem_of_getElem? (i := 66) rfl)
theorem wd67 {Z : State} {a0 : Array Value} (hw : ∀ d ∈ tables_1, d.before a0 Z = true) : (Jvm.Cond.methodLink "java/lang/StringLatin1" (92 : Nat) ({ cls := "java/lang/Math", name := "max", desc := "(II)I" } : Jvm.MethodName)).before a0 Z = true := hw _ (List.mem_of_getElem? (i := 67) rfl)
theorem wd68 {Z : State} {a0 : Array Value} (hw : ∀ d ∈ tables_1, d.before a0 Z = true) : (Jvm.Cond.static ({ cls := "java/lang/Math", name := "max", desc := "(II)I" } : Jvm.MethodName)).before a0 Z = true := hw _ (List.mem_of_getElem? (i := 68) rfl)
theorem wd69 {Z : State} {a0 : Array Value} (hw : ∀ d ∈ tables_1, d.before a0 Z = true) : (Jvm.Cond.initialized "java/lang/Math").before a0 Z = true := hw _ (List.mem_of_getElem? (i := 69) rfl)
theorem wd70 {Z : State} {a0 : Array Value} (hw : ∀ d ∈ tables_1, d.before a0 Z = true) : (Jvm.Cond.code ({ cls := "java/lang/Math", name := "max", desc := "(II)I" } : Jvm.MethodName) jdk_29_method_65_code (2 : Nat) (Option.some Jvm.ClassFile.FieldType.int)).before a0 Z = true := hw _ (List.mem_of_getElem? (i := 70) rfl)
theorem wd71 {Z : State} {a0 : Array Value} (hw : ∀ d ∈ tables_1, d.before a0 Z = true) : (Jvm.Cond.methodLink "java/lang/StringLatin1" (38 : Nat) ({ cls := "java/lang/Math", name := "min", desc := "(II)I" } : Jvm.MethodName)).before a0 Z = true := hw _ (List.mem_of_getElem? (i := 71) rfl)
theorem wd72 {Z : State} {a0 : Array Value} (hw : ∀ d ∈ tables_1, d.before a0 Z = true) : (Jvm.Cond.static ({ cls := "java/lang/Math", name := "min", desc := "(II)I" } : Jvm.MethodName)).before a0 Z = true := hw _ (List.mem_of_getElem? (i := 72) rfl)
theorem wd73 {Z : State} {a0 : Array Value} (hw : ∀ d ∈ tables_1, d.before a0 Z = true) : (Jvm.Cond.code ({ cls := "java/lang/Math", name := "min", desc := "(II)I" } : Jvm.MethodName) jdk_29_method_69_code (2 : Nat) (Option.some Jvm.ClassFile.FieldType.int)).before a0 Z = true := hw _ (List.mem_of_getElem? (i := 73) rfl)
theorem wd74 {Z : State} {a0 : Array Value} (hw : ∀ d ∈ tables_1, d.before a0 Z = true) : (Jvm.Cond.methodLink "java/lang/String" (177 : Nat) ({ cls := "java/lang/StringUTF16", name := "compress", desc := "([CII)[B" } : Jvm.MethodName)).before a0 Z = true := hw _ (List.mem_of_getElem? (i := 74) rfl)
theorem wd75 {Z : State} {a0 : Array Value} (hw : ∀ d ∈ tables_1, d.before a0 Z = true) : (Jvm.Cond.static ({ cls := "java/lang/StringUTF16", name := "compress", desc := "([CII)[B" } : Jvm.MethodName)).before a0 Z = true := hw _ (List.mem_of_getElem? (i := 75) rfl)
theorem wd76 {Z : State} {a0 : Array Value} (hw : ∀ d ∈ tables_1, d.before a0 Z = true) : (Jvm.Cond.initialized "java/lang/StringUTF16").before a0 Z = true := hw _ (List.mem_of_getElem? (i := 76) rfl)
theorem wd77 {Z : State} {a0 : Array Value} (hw : ∀ d ∈ tables_1, d.before a0 Z = true) : (Jvm.Cond.code ({ cls := "java/lang/StringUTF16", name := "compress", desc := "([CII)[B" } : Jvm.MethodName) jdk_52_method_16_code (6 : Nat) (Option.some (Jvm.ClassFile.FieldType.array Jvm.ClassFile.FieldType.byte))).before a0 Z = true := hw _ (List.mem_of_getElem? (i := 77) rfl)
theorem wd78 {Z : State} {a0 : Array Value} (hw : ∀ d ∈ tables_1, d.before a0 Z = true) : (Jvm.Cond.methodLink "java/lang/StringUTF16" (115 : Nat) ({ cls := "java/lang/StringUTF16", name := "compress", desc := "([CI[BII)I" } : Jvm.MethodName)).before a0 Z = true := hw _ (List.mem_of_getElem? (i := 78) rfl)
theorem wd79 {Z : State} {a0 : Array Value} (hw : ∀ d ∈ tables_1, d.before a0 Z = true) : (Jvm.Cond.static ({ cls := "java/lang/StringUTF16", name := "compress", desc := "([CI[BII)I" } : Jvm.MethodName)).before a0 Z = true := hw _ (List.mem_of_getElem? (i := 79) rfl)
theorem wd80 {Z : State} {a0 : Array Value} (hw : ∀ d ∈ tables_1, d.before a0 Z = true) : (Jvm.Cond.code ({ cls := "java/lang/StringUTF16", name := "compress", desc := "([CI[BII)I" } : Jvm.MethodName) jdk_52_method_21_code (7 : Nat) (Option.some Jvm.ClassFile.FieldType.int)).before a0 Z = true := hw _ (List.mem_of_getElem? (i := 80) rfl)
theorem wd81 {Z : State} {a0 : Array Value} (hw : ∀ d ∈ tables_1, d.before a0 Z = true) : (Jvm.Cond.methodLink "java/lang/String" (47 : Nat) ({ cls := "java/lang/StringUTF16", name := "coderFromArrayLen", desc := "([BI)B" } : Jvm.MethodName)).before a0 Z = true := hw _ (List.mem_of_getElem? (i := 81) rfl)
theorem wd82 {Z : State} {a0 : Array Value} (hw : ∀ d ∈ tables_1, d.before a0 Z = true) : (Jvm.Cond.static ({ cls := "java/lang/StringUTF16", name := "coderFromArrayLen", desc := "([BI)B" } : Jvm.MethodName)).before a0 Z = true := hw _ (List.mem_of_getElem? (i := 82) rfl)
theorem wd83 {Z : State} {a0 : Array Value} (hw : ∀ d ∈ tables_1, d.before a0 Z = true) : (Jvm.Cond.code ({ cls := "java/lang/StringUTF16", name := "coderFromArrayLen", desc := "([BI)B" } : Jvm.MethodName) jdk_52_method_15_code (2 : Nat) (Option.some Jvm.ClassFile.FieldType.byte)).before a0 Z = true := hw _ (List.mem_of_getElem? (i := 83) rfl)
theorem wd84 {Z : State} {a0 : Array Value} (hw : ∀ d ∈ tables_1, d.before a0 Z = true) : (Jvm.Cond.methodLink "com/example/treegraft/treegraft/files/TextFilesIsFieldPinLaw" (23 : Nat) ({ cls := "com/example/treegraft/treegraft/files/TextFilesIsFieldPinLaw", name := "bad", desc := "(C)Z" } : Jvm.MethodName)).before a0 Z = true := hw _ (List.mem_of_getElem? (i := 84) rfl)
theorem wd85 {Z : State} {a0 : Array Value} (hw : ∀ d ∈ tables_1, d.before a0 Z = true) : (Jvm.Cond.static ({ cls := "com/example/treegraft/treegraft/files/TextFilesIsFieldPinLaw", name := "bad", desc := "(C)Z" } : Jvm.MethodName)).before a0 Z = true := hw _ (List.mem_of_getElem? (i := 85) rfl)
theorem wd86 {Z : State} {a0 : Array Value} (hw : ∀ d ∈ tables_1, d.before a0 Z = true) : (Jvm.Cond.code ({ cls := "com/example/treegraft/treegraft/files/TextFilesIsFieldPinLaw", name := "bad", desc := "(C)Z" } : Jvm.MethodName) method_3_code (1 : Nat) (Option.some Jvm.ClassFile.FieldType.boolean)).before a0 Z = true := hw _ (List.mem_of_getElem? (i := 86) rfl)
theorem wd87 {Z : State} {a0 : Array Value} (hw : ∀ d ∈ tables_1, d.before a0 Z = true) : (Jvm.Cond.methodLink "java/lang/StringLatin1" (95 : Nat) ({ cls := "java/lang/StringLatin1", name := "indexOfChar", desc := "([BIII)I" } : Jvm.MethodName)).before a0 Z = true := hw _ (List.mem_of_getElem? (i := 87) rfl)
theorem wd88 {Z : State} {a0 : Array Value} (hw : ∀ d ∈ tables_1, d.before a0 Z = true) : (Jvm.Cond.static ({ cls := "java/lang/StringLatin1", name := "indexOfChar", desc := "([BIII)I" } : Jvm.MethodName)).before a0 Z = true := hw _ (List.mem_of_getElem? (i := 88) rfl)
theorem wd89 {Z : State} {a0 : Array Value} (hw : ∀ d ∈ tables_1, d.before a0 Z = true) : (Jvm.Cond.code ({ cls := "java/lang/StringLatin1", name := "indexOfChar", desc := "([BIII)I" } : Jvm.MethodName) jdk_43_method_23_code (6 : Nat) (Option.some Jvm.ClassFile.FieldType.int)).before a0 Z = true := hw _ (List.mem_of_getElem? (i := 89) rfl)
theorem wd90 {Z : State} {a0 : Array Value} (hw : ∀ d ∈ tables_1, d.before a0 Z = true) : (Jvm.Cond.methodLink "java/lang/StringUTF16" (119 : Nat) ({ cls := "java/lang/StringUTF16", name := "toBytes", desc := "([CII)[B" } : Jvm.MethodName)).before a0 Z = true := hw _ (List.mem_of_getElem? (i := 90) rfl)
theorem wd91 {Z : State} {a0 : Array Value} (hw : ∀ d ∈ tables_1, d.before a0 Z = true) : (Jvm.Cond.static ({ cls := "java/lang/StringUTF16", name := "toBytes", desc := "([CII)[B" } : Jvm.MethodName)).before a0 Z = true := hw _ (List.mem_of_getElem? (i := 91) rfl)
theorem wd92 {Z : State} {a0 : Array Value} (hw : ∀ d ∈ tables_1, d.before a0 Z = true) : (Jvm.Cond.code ({ cls := "java/lang/StringUTF16", name := "toBytes", desc := "([CII)[B" } : Jvm.MethodName) jdk_52_method_14_code (5 : Nat) (Option.some (Jvm.ClassFile.FieldType.array Jvm.ClassFile.FieldType.byte))).before a0 Z = true := hw _ (List.mem_of_getElem? (i := 92) rfl)
theorem wd93 {Z : State} {a0 : Array Value} (hw : ∀ d ∈ tables_1, d.before a0 Z = true) : (Jvm.Cond.methodLink "java/lang/StringUTF16" (107 : Nat) ({ cls := "java/lang/StringUTF16", name := "newBytesFor", desc := "(I)[B" } : Jvm.MethodName)).before a0 Z = true := hw _ (List.mem_of_getElem? (i := 93) rfl)
theorem wd94 {Z : State} {a0 : Array Value} (hw : ∀ d ∈ tables_1, d.before a0 Z = true) : (Jvm.Cond.static ({ cls := "java/lang/StringUTF16", name := "newBytesFor", desc := "(I)[B" } : Jvm.MethodName)).before a0 Z = true := hw _ (List.mem_of_getElem? (i := 94) rfl)
theorem wd95 {Z : State} {a0 : Array Value} (hw : ∀ d ∈ tables_1, d.before a0 Z = true) : (Jvm.Cond.code ({ cls := "java/lang/StringUTF16", name := "newBytesFor", desc := "(I)[B" } : Jvm.MethodName) jdk_52_method_2_code (1 : Nat) (Option.some (Jvm.ClassFile.FieldType.array Jvm.ClassFile.FieldType.byte))).before a0 Z = true := hw _ (List.mem_of_getElem? (i := 95) rfl)
theorem wd96 {Z : State} {a0 : Array Value} (hw : ∀ d ∈ tables_1, d.before a0 Z = true) : (Jvm.Cond.methodLink "java/lang/StringUTF16" (11 : Nat) ({ cls := "java/lang/StringUTF16", name := "newBytesLength", desc := "(I)I" } : Jvm.MethodName)).before a0 Z = true := hw _ (List.mem_of_getElem? (i := 96) rfl)
theorem wd97 {Z : State} {a0 : Array Value} (hw : ∀ d ∈ tables_1, d.before a0 Z = true) : (Jvm.Cond.static ({ cls := "java/lang/StringUTF16", name := "newBytesLength", desc := "(I)I" } : Jvm.MethodName)).before a0 Z = true := hw _ (List.mem_of_getElem? (i := 97) rfl)
theorem wd98 {Z : State} {a0 : Array Value} (hw : ∀ d ∈ tables_1, d.before a0 Z = true) : (Jvm.Cond.code ({ cls := "java/lang/StringUTF16", name := "newBytesLength", desc := "(I)I" } : Jvm.MethodName) jdk_52_method_3_code (1 : Nat) (Option.some Jvm.ClassFile.FieldType.int)).before a0 Z = true := hw _ (List.mem_of_getElem? (i := 98) rfl)
theorem wd99 {Z : State} {a0 : Array Value} (hw : ∀ d ∈ tables_1, d.before a0 Z = true) : (Jvm.Cond.constant "java/lang/StringUTF16" (20 : Nat) (1073741823 : Int32)).before a0 Z = true := hw _ (List.mem_of_getElem? (i := 99) rfl)
theorem wd100 {Z : State} {a0 : Array Value} (hw : ∀ d ∈ tables_1, d.before a0 Z = true) : (Jvm.Cond.methodLink "java/lang/StringUTF16" (111 : Nat) ({ cls := "java/lang/StringUTF16", name := "putChar", desc := "([BII)V" } : Jvm.MethodName)).before a0 Z = true := hw _ (List.mem_of_getElem? (i := 100) rfl)
theorem wd101 {Z : State} {a0 : Array Value} (hw : ∀ d ∈ tables_1, d.before a0 Z = true) : (Jvm.Cond.static ({ cls := "java/lang/StringUTF16", name := "putChar", desc := "([BII)V" } : Jvm.MethodName)).before a0 Z = true := hw _ (List.mem_of_getElem? (i := 101) rfl)
theorem wd102 {Z : State} {a0 : Array Value} (hw : ∀ d ∈ tables_1, d.before a0 Z = true) : (Jvm.Cond.code ({ cls := "java/lang/StringUTF16", name := "putChar", desc := "([BII)V" } : Jvm.MethodName) jdk_52_method_4_code (3 : Nat) (Option.none : Option Jvm.ClassFile.FieldType)).before a0 Z = true := hw _ (List.mem_of_getElem? (i := 102) rfl)
theorem wd103 {Z : State} {a0 : Array Value} (hw : ∀ d ∈ tables_1, d.before a0 Z = true) : (Jvm.Cond.fieldLink "java/lang/StringUTF16" (44 : Nat) "java/lang/StringUTF16" "$assertionsDisabled" "Z").before a0 Z = true := hw _ (List.mem_of_getElem? (i := 103) rfl)
theorem wd104 {Z : State} {a0 : Array Value} (hw : ∀ d ∈ tables_1, d.before a0 Z = true) : (Jvm.Cond.fieldLink "java/lang/StringUTF16" (59 : Nat) "java/lang/StringUTF16" "HI_BYTE_SHIFT" "I").before a0 Z = true := hw _ (List.mem_of_getElem? (i := 104) rfl)
theorem wd105 {Z : State} {a0 : Array Value} (hw : ∀ d ∈ tables_1, d.before a0 Z = true) : (Jvm.Cond.fieldLink "java/lang/StringUTF16" (63 : Nat) "java/lang/StringUTF16" "LO_BYTE_SHIFT" "I").before a0 Z = true := hw _ (List.mem_of_getElem? (i := 105) rfl)
theorem wd106 {Z : State} {a0 : Array Value} (hw : ∀ d ∈ tables_1, d.before a0 Z = true) : (Jvm.Cond.methodLink "java/lang/StringUTF16" (71 : Nat) ({ cls := "java/lang/StringUTF16", name := "getChar", desc := "([BI)C" } : Jvm.MethodName)).before a0 Z = true := hw _ (List.mem_of_getElem? (i := 106) rfl)
theorem wd107 {Z : State} {a0 : Array Value} (hw : ∀ d ∈ tables_1, d.before a0 Z = true) : (Jvm.Cond.static ({ cls := "java/lang/StringUTF16", name := "getChar", desc := "([BI)C" } : Jvm.MethodName)).before a0 Z = true := hw _ (List.mem_of_getElem? (i := 107) rfl)
theorem wd108 {Z : State} {a0 : Array Value} (hw : ∀ d ∈ tables_1, d.before a0 Z = true) : (Jvm.Cond.code ({ cls := "java/lang/StringUTF16", name := "getChar", desc := "([BI)C" } : Jvm.MethodName) jdk_52_method_5_code (2 : Nat) (Option.some Jvm.ClassFile.FieldType.char)).before a0 Z = true := hw _ (List.mem_of_getElem? (i := 108) rfl)
theorem wd109 {Z : State} {a0 : Array Value} (hw : ∀ d ∈ tables_1, d.before a0 Z = true) : (Jvm.Cond.methodLink "java/lang/String" (640 : Nat) ({ cls := "java/lang/StringUTF16", name := "indexOf", desc := "([BIII)I" } : Jvm.MethodName)).before a0 Z = true := hw _ (List.mem_of_getElem? (i := 109) rfl)
theorem wd110 {Z : State} {a0 : Array Value} (hw : ∀ d ∈ tables_1, d.before a0 Z = true) : (Jvm.Cond.static ({ cls := "java/lang/StringUTF16", name := "indexOf", desc := "([BIII)I" } : Jvm.MethodName)).before a0 Z = true := hw _ (List.mem_of_getElem? (i := 110) rfl)
theorem wd111 {Z : State} {a0 : Array Value} (hw : ∀ d ∈ tables_1, d.before a0 Z = true) : (Jvm.Cond.code ({ cls := "java/lang/StringUTF16", name := "indexOf", desc := "([BIII)I" } : Jvm.MethodName) jdk_52_method_40_code (4 : Nat) (Option.some Jvm.ClassFile.FieldType.int)).before a0 Z = true := hw _ (List.mem_of_getElem? (i := 111) rfl)
theorem wd112 {Z : State} {a0 : Array Value} (hw : ∀ d ∈ tables_1, d.before a0 Z = true) : (Jvm.Cond.methodLink "java/lang/StringUTF16" (224 : Nat) ({ cls := "java/lang/Math", name := "max", desc := "(II)I" } : Jvm.MethodName)).before a0 Z = true := hw _ (List.mem_of_getElem? (i := 112) rfl)
theorem wd113 {Z : State} {a0 : Array Value} (hw : ∀ d ∈ tables_1, d.before a0 Z = true) : (Jvm.Cond.methodLink "java/lang/StringUTF16" (183 : Nat) ({ cls := "java/lang/Math", name := "min", desc := "(II)I" } : Jvm.MethodName)).before a0 Z = true := hw _ (List.mem_of_getElem? (i := 113) rfl)
theorem wd114 {Z : State} {a0 : Array Value} (hw : ∀ d ∈ tables_1, d.before a0 Z = true) : (Jvm.Cond.constant "java/lang/StringUTF16" (227 : Nat) (65536 : Int32)).before a0 Z = true := hw _ (List.mem_of_getElem? (i := 114) rfl)
theorem wd115 {Z : State} {a0 : Array Value} (hw : ∀ d ∈ tables_1, d.before a0 Z = true) : (Jvm.Cond.methodLink "java/lang/StringUTF16" (228 : Nat) ({ cls := "java/lang/StringUTF16", name := "indexOfChar", desc := "([BIII)I" } : Jvm.MethodName)).before a0 Z = true := hw _ (List.mem_of_getElem? (i := 115) rfl)
theorem wd116 {Z : State} {a0 : Array Value} (hw : ∀ d ∈ tables_1, d.before a0 Z = true) : (Jvm.Cond.static ({ cls := "java/lang/StringUTF16", name := "indexOfChar", desc := "([BIII)I" } : Jvm.MethodName)).before a0 Z = true := hw _ (List.mem_of_getElem? (i := 116) rfl)
theorem wd117 {Z : State} {a0 : Array Value} (hw : ∀ d ∈ tables_1, d.before a0 Z = true) : (Jvm.Cond.code ({ cls := "java/lang/StringUTF16", name := "indexOfChar", desc := "([BIII)I" } : Jvm.MethodName) jdk_52_method_47_code (4 : Nat) (Option.some Jvm.ClassFile.FieldType.int)).before a0 Z = true := hw _ (List.mem_of_getElem? (i := 117) rfl)
theorem wd118 {Z : State} {a0 : Array Value} (hw : ∀ d ∈ tables_1, d.before a0 Z = true) : (Jvm.Cond.methodLink "java/lang/StringUTF16" (96 : Nat) ({ cls := "java/lang/StringUTF16", name := "checkBoundsBeginEnd", desc := "(II[B)V" } : Jvm.MethodName)).before a0 Z = true := hw _ (List.mem_of_getElem? (i := 118) rfl)
theorem wd119 {Z : State} {a0 : Array Value} (hw : ∀ d ∈ tables_1, d.before a0 Z = true) : (Jvm.Cond.static ({ cls := "java/lang/StringUTF16", name := "checkBoundsBeginEnd", desc := "(II[B)V" } : Jvm.MethodName)).before a0 Z = true := hw _ (List.mem_of_getElem? (i := 119) rfl)
theorem wd120 {Z : State} {a0 : Array Value} (hw : ∀ d ∈ tables_1, d.before a0 Z = true) : (Jvm.Cond.code ({ cls := "java/lang/StringUTF16", name := "checkBoundsBeginEnd", desc := "(II[B)V" } : Jvm.MethodName) jdk_52_method_93_code (3 : Nat) (Option.none : Option Jvm.ClassFile.FieldType)).before a0 Z = true := hw _ (List.mem_of_getElem? (i := 120) rfl)
theorem wd121 {Z : State} {a0 : Array Value} (hw : ∀ d ∈ tables_1, d.before a0 Z = true) : (Jvm.Cond.methodLink "java/lang/StringUTF16" (48 : Nat) ({ cls := "java/lang/StringUTF16", name := "length", desc := "([B)I" } : Jvm.MethodName)).before a0 Z = true := hw _ (List.mem_of_getElem? (i := 121) rfl)
theorem wd122 {Z : State} {a0 : Array Value} (hw : ∀ d ∈ tables_1, d.before a0 Z = true) : (Jvm.Cond.static ({ cls := "java/lang/StringUTF16", name := "length", desc := "([B)I" } : Jvm.MethodName)).before a0 Z = true := hw _ (List.mem_of_getElem? (i := 122) rfl)
theorem wd123 {Z : State} {a0 : Array Value} (hw : ∀ d ∈ tables_1, d.before a0 Z = true) : (Jvm.Cond.code ({ cls := "java/lang/StringUTF16", name := "length", desc := "([B)I" } : Jvm.MethodName) jdk_52_method_6_code (1 : Nat) (Option.some Jvm.ClassFile.FieldType.int)).before a0 Z = true := hw _ (List.mem_of_getElem? (i := 123) rfl)
theorem wd124 {Z : State} {a0 : Array Value} (hw : ∀ d ∈ tables_1, d.before a0 Z = true) : (Jvm.Cond.methodLink "java/lang/StringUTF16" (241 : Nat) ({ cls := "java/lang/String", name := "checkBoundsBeginEnd", desc := "(III)V" } : Jvm.MethodName)).before a0 Z = true := hw _ (List.mem_of_getElem? (i := 124) rfl)
theorem wd125 {Z : State} {a0 : Array Value} (hw : ∀ d ∈ tables_1, d.before a0 Z = true) : (Jvm.Cond.static ({ cls := "java/lang/String", name := "checkBoundsBeginEnd", desc := "(III)V" } : Jvm.MethodName)).before a0 Z = true := hw _ (List.mem_of_getElem? (i := 125) rfl)
theorem wd126 {Z : State} {a0 : Array Value} (hw : ∀ d ∈ tables_1, d.before a0 Z = true) : (Jvm.Cond.code ({ cls := "java/lang/String", name := "checkBoundsBeginEnd", desc := "(III)V" } : Jvm.MethodName) jdk_42_method_158_code (3 : Nat) (Option.none : Option Jvm.ClassFile.FieldType)).before a0 Z = true := hw _ (List.mem_of_getElem? (i := 126) rfl)
theorem wd127 {Z : State} {a0 : Array Value} (hw : ∀ d ∈ tables_1, d.before a0 Z = true) : (Jvm.Cond.fieldLink "java/lang/String" (1053 : Nat) "jdk/internal/util/Preconditions" "SIOOBE_FORMATTER" "Ljava/util/function/BiFunction;").before a0 Z = true := hw _ (List.mem_of_getElem? (i := 127) rfl)
theorem wd128 {Z : State} {a0 : Array Value} (hw : ∀ d ∈ tables_1, d.before a0 Z = true) : (Jvm.Cond.initialized "jdk/internal/util/Preconditions").before a0 Z = true := hw _ (List.mem_of_getElem? (i := 128) rfl)
theorem wd129 {Z : State} {a0 : Array Value} (hw : ∀ d ∈ tables_1, d.before a0 Z = true) : (Jvm.Cond.methodLink "java/lang/String" (1062 : Nat) ({ cls := "jdk/internal/util/Preconditions", name := "checkFromToIndex", desc := "(IIILjava/util/function/BiFunction;)I" } : Jvm.MethodName)).before a0 Z = true := hw _ (List.mem_of_getElem? (i := 129) rfl)
theorem wd130 {Z : State} {a0 : Array Value} (hw : ∀ d ∈ tables_1, d.before a0 Z = true) : (Jvm.Cond.static ({ cls := "jdk/internal/util/Preconditions", name := "checkFromToIndex", desc := "(IIILjava/util/function/BiFunction;)I" } : Jvm.MethodName)).before a0 Z = true := hw _ (List.mem_of_getElem? (i := 130) rfl)
theorem wd131 {Z : State} {a0 : Array Value} (hw : ∀ d ∈ tables_1, d.before a0 Z = true) : (Jvm.Cond.code ({ cls := "jdk/internal/util/Preconditions", name := "checkFromToIndex", desc := "(IIILjava/util/function/BiFunction;)I" } : Jvm.MethodName) jdk_41_method_12_code (4 : Nat) (Option.some Jvm.ClassFile.FieldType.int)).before a0 Z = true := hw _ (List.mem_of_getElem? (i := 131) rfl)
theorem wd132 {Z : State} {a0 : Array Value} (hw : ∀ d ∈ tables_1, d.before a0 Z = true) : (Jvm.Cond.methodLink "java/lang/StringUTF16" (244 : Nat) ({ cls := "java/lang/StringUTF16", name := "indexOfCharUnsafe", desc := "([BIII)I" } : Jvm.MethodName)).before a0 Z = true := hw _ (List.mem_of_getElem? (i := 132) rfl)
theorem wd133 {Z : State} {a0 : Array Value} (hw : ∀ d ∈ tables_1, d.before a0 Z = true) : (Jvm.Cond.static ({ cls := "java/lang/StringUTF16", name := "indexOfCharUnsafe", desc := "([BIII)I" } : Jvm.MethodName)).before a0 Z = true := hw _ (List.mem_of_getElem? (i := 133) rfl)
theorem wd134 {Z : State} {a0 : Array Value} (hw : ∀ d ∈ tables_1, d.before a0 Z = true) : (Jvm.Cond.code ({ cls := "java/lang/StringUTF16", name := "indexOfCharUnsafe", desc := "([BIII)I" } : Jvm.MethodName) jdk_52_method_48_code (5 : Nat) (Option.some Jvm.ClassFile.FieldType.int)).before a0 Z = true := hw _ (List.mem_of_getElem? (i := 134) rfl)
theorem nar16 (x : Int32) {y : Int32} (h : x.toUInt32.toUInt16.toUInt32.toInt32 = y) : (¬ y < 0 ∧ ¬ (65535 : Int32) < y) ∧ nar .char y = y := by
  have q := c_i2c x
  rw [h] at q
  have h0 : ¬ y < 0 := fun z => by rw [Int32.lt_iff_toInt_lt] at z; have : (0 : Int32).toInt = 0 := rfl; omega
  have h1 : ¬ (65535 : Int32) < y := fun z => by rw [Int32.lt_iff_toInt_lt] at z; have : (65535 : Int32).toInt = 65535 := rfl; omega
  exact ⟨⟨h0, h1⟩, by have := StrChars.narrow_ch h0 h1; exact Value.int.inj this⟩
def mk3 (n c0 c1 c2 : Int32) : List Int32 := if n = 0 then [] else if n = 1 then [c0] else if n = 2 then [c0, c1] else [c0, c1, c2]
theorem mk3_0 {n c0 c1 c2 : Int32} (h : n = 0) : mk3 n c0 c1 c2 = [] := by rw [mk3, if_pos h]
theorem mk3_1 {n c0 c1 c2 : Int32} (h : ¬ n = 0) (h1 : n = 1) : mk3 n c0 c1 c2 = [c0] := by rw [mk3, if_neg h, if_pos h1]
theorem mk3_2 {n c0 c1 c2 : Int32} (h : ¬ n = 0) (h1 : ¬ n = 1) (h2 : n = 2) : mk3 n c0 c1 c2 = [c0, c1] := by rw [mk3, if_neg h, if_neg h1, if_pos h2]
theorem mk3_3 {n c0 c1 c2 : Int32} (h : ¬ n = 0) (h1 : ¬ n = 1) (h2 : ¬ n = 2) : mk3 n c0 c1 c2 = [c0, c1, c2] := by rw [mk3, if_neg h, if_neg h1, if_neg h2]

/-- what indexOf answers, as far as its sign goes -/
def IX (v ch : Int32) (cs : List Int32) : Prop := (v < 0 ∧ ch ∉ cs) ∨ (¬ v < 0 ∧ ch ∈ cs)
theorem lo8_ne {x y : Int32} (hx : ¬ x < 0 ∧ ¬ (255 : Int32) < x) (hy : ¬ y < 0 ∧ ¬ (255 : Int32) < y) (h : ¬ x = y) : ¬ StrChars.lo8 x = StrChars.lo8 y := fun q => h (by
  have a := StrChars.lo8_mask hx.1 hx.2
  have b := StrChars.lo8_mask hy.1 hy.2
  rw [← a, ← b, q])
theorem and3 {x y : Int32} (h : x &&& (3 : Int32) = y) : y = 0 ∨ y = 1 ∨ y = 2 ∨ y = 3 := by
  have h1 := c_and x 3 (by decide)
  rw [h] at h1
  have e3 : (3 : Int32).toInt = 3 := rfl
  have e : y.toInt = 0 ∨ y.toInt = 1 ∨ y.toInt = 2 ∨ y.toInt = 3 := by omega
  rcases e with e | e | e | e
  · exact Or.inl (Int32.toInt_inj.mp e)
  · exact Or.inr (Or.inl (Int32.toInt_inj.mp e))
  · exact Or.inr (Or.inr (Or.inl (Int32.toInt_inj.mp e)))
  · exact Or.inr (Or.inr (Or.inr (Int32.toInt_inj.mp e)))
def bad (c : Int32) : Prop := c = 9 ∨ c = 10 ∨ c = 13
theorem badIn {c : Int32} {cs : List Int32} (hc : c ∈ cs) (t : bad c) : ¬ ((9 : Int32) ∉ cs ∧ (10 : Int32) ∉ cs ∧ (13 : Int32) ∉ cs) := fun q => by
  rcases t with rfl | rfl | rfl
  · exact q.1 hc
  · exact q.2.1 hc
  · exact q.2.2 hc
theorem noBad {cs : List Int32} (h : ∀ c ∈ cs, ¬ bad c) : (9 : Int32) ∉ cs ∧ (10 : Int32) ∉ cs ∧ (13 : Int32) ∉ cs := ⟨fun q => h 9 q (Or.inl rfl), fun q => h 10 q (Or.inr (Or.inl rfl)), fun q => h 13 q (Or.inr (Or.inr rfl))⟩
theorem ew1 {Z : State} {a0 : Array Value} (hw : ∀ d ∈ tables_1, d.before a0 Z = true) : EW Z a0 consts_1 := (EW.cons (wd22 hw) (by decide) EW.nil)
theorem sa1 {Z : State} {a0 : Array Value} (hw : ∀ d ∈ tables_1, d.before a0 Z = true) : ∀ a ∈ Bundle.stringAtoms, a.before a0 Z = true := fun d hd => hw d ((by decide +kernel : ∀ d ∈ Bundle.stringAtoms, d ∈ tables_1) d hd)
set_option maxRecDepth 65536 in
set_option maxHeartbeats 40000000 in
theorem ef_rmE1 (m : MethodId) (a1 : Addr) (a2 : Addr) : entryFrame m #[(.ref a1), (.ref a2), (.int (0 : Int32)), (.int (0 : Int32)), .null] 6 = mkF m 0 #[.val (.ref a1), .val (.ref a2), .val (.int (0 : Int32)), .val (.int (0 : Int32)), .val .null, .unset] [] := by first | (simp [entryFrame, mkF, argsToLocals, Value.category]; done) | (rfl)
set_option maxRecDepth 65536 in
set_option maxHeartbeats 40000000 in
theorem rmE1 (l : Launch) (Z : State) (a0 : Array Value) (hw : ∀ d ∈ tables_1, d.before a0 Z = true) (ew : EW Z a0 consts_1) (a1 : Addr) (a2 : Addr) (h0 : Heap) (O : Ext Z.heap h0) (za : Z.heap.size ≤ a1) (E_a1 : Exa Z h0 a1 "java/lang/String") (F_a1_value : Fld Z h0 a1 "java/lang/String" "value" "[B" .null) (F_a1_coder : Fld Z h0 a1 "java/lang/String" "coder" "B" (.int 0)) :
    MCc l Z consts_1 (⟨"java/lang/String", "<init>", "([CIILjava/lang/Void;)V"⟩ : MethodName) jdk_42_method_149_code 6 none [] ({ frames := 1, cells := 4, slots := 8, locals := 12 } : Room) #[(.ref a1), (.ref a2), (.int (0 : Int32)), (.int (0 : Int32)), .null] h0 [a1] (RU (fun h => Str Z h a1 [])) := by
  refine MCc.mk (a0 := a0) rfl rfl (plainFor_of_name pn0) O ew (fun m => ef_rmE1 m a1 a2) ?_
  intro pg ev s m below meth cd T hh X
  subst hh
  have lt_a1 := E_a1.lt
  refine X.aloadN (pc' := 1) d4_0 rfl rfl rfl ?_
  refine X.initO (pc' := 4) (wd19 hw) (wd20 hw) (wd21 hw) rfl d4_1 (leB rfl) (leB rfl) rfl ?_
  intro T X
  refine X.iloadN (pc' := 5) d4_4 rfl rfl ?_
  refine X.ifN (pc' := 8) d4_5 (by decide) rfl ?_
  refine X.aloadN (pc' := 9) d4_8 rfl rfl rfl ?_
  refine X.ldcS (pc' := 11) (vs := []) (z := (0 : Int32)) (wd22 hw) (sa1 hw) (by simp [consts_1]) (by decide) (by decide) rfl d4_9 0 (by decide) (by decide) (leB rfl) (leB rfl) rfl ?_
  intro T vm h l1 t1 ka_t1 Ex hC E_l1 F_l1_coder F_l1_value V_t1 lt_l1 lt_t1 sf X
  replace F_a1_value := F_a1_value.ext Ex
  replace F_a1_coder := F_a1_coder.ext Ex
  replace E_a1 := E_a1.ext Ex
  replace lt_a1 := Nat.lt_of_lt_of_le lt_a1 Ex.1
  have sf1 := Safe.blank (EL := consts_1) X.al E_a1 (wd9 hw) F_a1_value
  have ne1 := sf _ sf1
  refine X.getF (pc' := 14) (wd28 hw) Via.refl F_l1_value d4_11 rfl ?_
  intro T X
  have H0 := X.H
  refine X.putF (pc' := 17) (wd28 hw) Via.refl F_a1_value E_a1 (Or.inr ⟨(wd24 hw), rfl, rfl⟩) (wd9 hw) (.array .byte) (by decide) rfl rfl sf1 za (Or.inl (List.mem_of_getElem? (i := 0) rfl)) d4_14 rfl ?_
  intro T h L X W
  replace F_a1_coder := F_a1_coder.other W (Or.inr (slot_ne (Or.inr (wd25 hw)) (Or.inr (wd24 hw)) (by decide) (t := .byte) (t' := (.array .byte)) (by decide) (by decide)))
  replace E_a1 := E_a1.wr W
  replace lt_a1 := Nat.lt_of_lt_of_le lt_a1 (Keep.of_wr W).1
  replace E_l1 := E_l1.wr W
  replace F_l1_coder := F_l1_coder.other W (Or.inl (Ne.symm ne1.1))
  replace F_l1_value := F_l1_value.other W (Or.inl (Ne.symm ne1.1))
  replace V_t1 := V_t1.other W (Ne.symm ne1.2)
  replace lt_l1 := Nat.lt_of_lt_of_le lt_l1 (Keep.of_wr W).1
  replace lt_t1 := Nat.lt_of_lt_of_le lt_t1 (Keep.of_wr W).1
  replace F_a1_value := F_a1_value.same W
  replace sf1 := Safe.wr W sf1 H0 sf1
  refine X.aloadN (pc' := 18) d4_17 rfl rfl rfl ?_
  refine X.ldcS (pc' := 20) (vs := []) (z := (0 : Int32)) (wd22 hw) (sa1 hw) (by simp [consts_1]) (by decide) (by decide) rfl d4_18 0 (by decide) (by decide) (leB rfl) (leB rfl) rfl ?_
  intro T vm h l2 t2 ka_t2 Ex hC E_l2 F_l2_coder F_l2_value V_t2 lt_l2 lt_t2 sf X
  replace sf1 := hC.safe lt_a1 sf1
  replace F_a1_value := F_a1_value.ext Ex
  replace F_a1_coder := F_a1_coder.ext Ex
  replace E_a1 := E_a1.ext Ex
  replace lt_a1 := Nat.lt_of_lt_of_le lt_a1 Ex.1
  replace V_t1 := V_t1.ext Ex
  replace lt_t1 := Nat.lt_of_lt_of_le lt_t1 Ex.1
  have ne2 := sf _ sf1
  refine X.getF (pc' := 23) (wd29 hw) Via.refl F_l2_coder d4_20 rfl ?_
  intro T X
  refine X.putF (pc' := 26) (wd29 hw) Via.refl F_a1_coder E_a1 (Or.inr ⟨(wd25 hw), rfl, rfl⟩) (wd9 hw) .byte (by decide) rfl rfl sf1 za (Or.inl (List.mem_of_getElem? (i := 0) rfl)) d4_23 rfl ?_
  intro T h L X W
  replace F_a1_value := F_a1_value.other W (Or.inr (slot_ne (Or.inr (wd24 hw)) (Or.inr (wd25 hw)) (by decide) (t := (.array .byte)) (t' := .byte) (by decide) (by decide)))
  replace E_a1 := E_a1.wr W
  replace lt_a1 := Nat.lt_of_lt_of_le lt_a1 (Keep.of_wr W).1
  replace V_t1 := V_t1.other W (Ne.symm ne1.2)
  replace lt_t1 := Nat.lt_of_lt_of_le lt_t1 (Keep.of_wr W).1
  replace lt_l2 := Nat.lt_of_lt_of_le lt_l2 (Keep.of_wr W).1
  replace lt_t2 := Nat.lt_of_lt_of_le lt_t2 (Keep.of_wr W).1
  replace F_a1_coder := F_a1_coder.same W
  exact X.retUC d4_26 (by decide) (by decide) ⟨rfl, t1, ka_t1, 0, 0, [], E_a1, F_a1_value, F_a1_coder, V_t1, StrChars.Road.codOf (cs := []) (n := 0) rfl (fun _ q => nomatch q), (fun _ q => nomatch q), by decide⟩
set_option maxRecDepth 65536 in
set_option maxHeartbeats 40000000 in
theorem ef_rmE0 (m : MethodId) (a1 : Addr) (a2 : Addr) : entryFrame m #[(.ref a1), (.ref a2)] 2 = mkF m 0 #[.val (.ref a1), .val (.ref a2)] [] := by first | (simp [entryFrame, mkF, argsToLocals, Value.category]; done) | (rfl)
set_option maxRecDepth 65536 in
set_option maxHeartbeats 40000000 in
theorem rmE0 (l : Launch) (Z : State) (a0 : Array Value) (hw : ∀ d ∈ tables_1, d.before a0 Z = true) (ew : EW Z a0 consts_1) (a1 : Addr) (a2 : Addr) (h0 : Heap) (O : Ext Z.heap h0) (za : Z.heap.size ≤ a1) (E_a1 : Exa Z h0 a1 "java/lang/String") (F_a1_value : Fld Z h0 a1 "java/lang/String" "value" "[B" .null) (F_a1_coder : Fld Z h0 a1 "java/lang/String" "coder" "B" (.int 0)) (ka : ClassId) (V : Arv Z h0 a2 ka .char (0 : Int32) [] (.int 0)) :
    MCc l Z consts_1 (⟨"java/lang/String", "<init>", "([C)V"⟩ : MethodName) jdk_42_method_3_code 2 none [] ({ frames := 2, cells := 4, slots := 8, locals := 40 } : Room) #[(.ref a1), (.ref a2)] h0 [a1] (RU (fun h => Str Z h a1 [])) := by
  refine MCc.mk (a0 := a0) rfl rfl (plainFor_of_name pn0) O ew (fun m => ef_rmE0 m a1 a2) ?_
  intro pg ev s m below meth cd T hh X
  subst hh
  refine X.aloadN (pc' := 1) d3_0 rfl rfl rfl ?_
  refine X.aloadN (pc' := 2) d3_1 rfl rfl rfl ?_
  refine X.iconst (pc' := 3) (0 : Int32) d3_2 rfl rfl ?_
  refine X.aloadN (pc' := 4) d3_3 rfl rfl rfl ?_
  refine X.alen (pc' := 5) V d3_4 rfl ?_
  refine X.aconstNull (pc' := 6) d3_5 rfl ?_
  refine X.coldU (pc' := 9) (X.sSpecial rfl (wd15 hw) (wd16 hw) (wd18 hw) (by decide) rfl pd0 [(.ref a2), (.int (0 : Int32)), (.int (0 : Int32)), .null] rfl rfl d3_6) (rmE1 l Z a0 hw ew a1 a2 _ X.old za E_a1 F_a1_value F_a1_coder) (wd18 hw) (wd10 hw) (leB rfl) (leB rfl) (leB rfl) (leB rfl) (allS (Or.inl (List.mem_of_getElem? (i := 0) rfl)) all0) rfl ?_
  intro T vm h L X K hC q
  exact X.retUC d3_9 (by decide) (by decide) ⟨rfl, q⟩
set_option maxRecDepth 65536 in
set_option maxHeartbeats 40000000 in
theorem ef_rmPut (m : MethodId) (a1 : Addr) (i : Int32) (c0 : Int32) : entryFrame m #[(.ref a1), (.int i), (.int c0)] 3 = mkF m 0 #[.val (.ref a1), .val (.int i), .val (.int c0)] [] := by first | (simp [entryFrame, mkF, argsToLocals, Value.category]; done) | (rfl)
set_option maxRecDepth 65536 in
set_option maxHeartbeats 40000000 in
theorem rmPut (l : Launch) (Z : State) (a0 : Array Value) (hw : ∀ d ∈ tables_1, d.before a0 Z = true) (a1 : Addr) (i : Int32) (c0 : Int32) (h0 : Heap) (O : Ext Z.heap h0) (SA : Sta Z Z.heap "java/lang/StringUTF16" "$assertionsDisabled" "Z" (.int 1)) (SH : Sta Z Z.heap "java/lang/StringUTF16" "HI_BYTE_SHIFT" "I" (.int 0)) (SL : Sta Z Z.heap "java/lang/StringUTF16" "LO_BYTE_SHIFT" "I" (.int 8)) (j : Int32) (hj : i <<< ((1 : Int32) &&& 31) = j) (z : Int32) (vs : List Value) (ka : ClassId) (V : Arv Z h0 a1 ka .byte z vs (.int 0)) (q1 : ¬ j < 0 ∧ j < z) (q2 : ¬ (j + (1 : Int32)) < 0 ∧ (j + (1 : Int32)) < z) (kk : Nat) (e1 : j.toNatClampNeg = kk) (e2 : (j + (1 : Int32)).toNatClampNeg = kk + 1) (hl : kk + 1 < vs.length) (za : Z.heap.size ≤ a1) :
    MN l Z (⟨"java/lang/StringUTF16", "putChar", "([BII)V"⟩ : MethodName) jdk_52_method_4_code 3 none [] ({ frames := 0, cells := 0, slots := 0, locals := 0 } : Room) #[(.ref a1), (.int i), (.int c0)] h0 [a1] (RU (fun h => Arv Z h a1 ka .byte z ((vs.set kk (.int (StrChars.lo8 c0))).set (kk + 1) (.int (StrChars.hi8 c0))) (.int 0))) := by
  refine MN.mk (a0 := a0) rfl rfl (plainFor_of_name pn1) O (fun m => ef_rmPut m a1 i c0) ?_
  intro pg ev s m below meth cd T hh X
  subst hh
  refine X.getS (pc' := 3) (wd103 hw) Via.refl SA d24_0 rfl ?_
  intro T X
  refine X.ifY (pc' := 28) d24_3 (by decide) (by decide) (by decide) ?_
  refine X.iloadN (pc' := 29) d24_28 rfl rfl ?_
  refine X.iconst (pc' := 30) (1 : Int32) d24_29 rfl rfl ?_
  refine X.ishl (pc' := 31) d24_30 rfl ?_
  rw [hj]
  refine X.istoreN (pc' := 32) #[.val (.ref a1), .val (.int j), .val (.int c0)] d24_31 rfl rfl ?_
  refine X.aloadN (pc' := 33) d24_32 rfl rfl rfl ?_
  refine X.iloadN (pc' := 34) d24_33 rfl rfl ?_
  refine X.iinc (pc' := 37) #[.val (.ref a1), .val (.int (j + (1 : Int32))), .val (.int c0)] d24_34 rfl rfl rfl ?_
  refine X.iloadN (pc' := 38) d24_37 rfl rfl ?_
  refine X.getS (pc' := 41) (wd104 hw) Via.refl SH d24_38 rfl ?_
  intro T X
  refine X.ishr (pc' := 42) d24_41 rfl ?_
  rw [StrChars.shr0 c0]
  refine X.i2b (pc' := 43) d24_42 rfl ?_
  refine X.bastore (pc' := 44) V q1 kk e1 (Nat.lt_of_succ_lt hl) safeE za (Or.inl (List.mem_of_getElem? (i := 0) rfl)) d24_43 rfl ?_
  intro T h L X W V1
  rw [narB c0] at V1
  refine X.aloadN (pc' := 45) d24_44 rfl rfl rfl ?_
  refine X.iloadN (pc' := 46) d24_45 rfl rfl ?_
  refine X.iloadN (pc' := 47) d24_46 rfl rfl ?_
  refine X.getS (pc' := 50) (wd105 hw) Via.refl SL d24_47 rfl ?_
  intro T X
  refine X.ishr (pc' := 51) d24_50 rfl ?_
  refine X.i2b (pc' := 52) d24_51 rfl ?_
  refine X.bastore (pc' := 53) V1 q2 (kk + 1) e2 (by rw [List.length_set]; exact hl) safeE za (Or.inl (List.mem_of_getElem? (i := 0) rfl)) d24_52 rfl ?_
  intro T h L X W V2
  rw [narB] at V2
  exact X.retUN d24_53 (by decide) (by decide) ⟨rfl, V2⟩
set_option maxRecDepth 65536 in
set_option maxHeartbeats 40000000 in
theorem ef_rmGet (m : MethodId) (a1 : Addr) (i : Int32) : entryFrame m #[(.ref a1), (.int i)] 2 = mkF m 0 #[.val (.ref a1), .val (.int i)] [] := by first | (simp [entryFrame, mkF, argsToLocals, Value.category]; done) | (rfl)
set_option maxRecDepth 65536 in
set_option maxHeartbeats 40000000 in
theorem rmGet (l : Launch) (Z : State) (a0 : Array Value) (hw : ∀ d ∈ tables_1, d.before a0 Z = true) (a1 : Addr) (i : Int32) (h0 : Heap) (O : Ext Z.heap h0) (SA : Sta Z Z.heap "java/lang/StringUTF16" "$assertionsDisabled" "Z" (.int 1)) (SH : Sta Z Z.heap "java/lang/StringUTF16" "HI_BYTE_SHIFT" "I" (.int 0)) (SL : Sta Z Z.heap "java/lang/StringUTF16" "LO_BYTE_SHIFT" "I" (.int 8)) (j : Int32) (hj : i <<< ((1 : Int32) &&& 31) = j) (z : Int32) (vs : List Value) (ka : ClassId) (V : Arv Z h0 a1 ka .byte z vs (.int 0)) (q1 : ¬ j < 0 ∧ j < z) (q2 : ¬ (j + (1 : Int32)) < 0 ∧ (j + (1 : Int32)) < z) (c0 : Int32) (r_c0 : ¬ c0 < 0 ∧ ¬ (65535 : Int32) < c0) (u1 : vs.getD j.toNatClampNeg (.int 0) = .int (StrChars.lo8 c0)) (u2 : vs.getD (j + (1 : Int32)).toNatClampNeg (.int 0) = .int (StrChars.hi8 c0)) :
    MN l Z (⟨"java/lang/StringUTF16", "getChar", "([BI)C"⟩ : MethodName) jdk_52_method_5_code 2 (some .char) [] ({ frames := 0, cells := 0, slots := 0, locals := 0 } : Room) #[(.ref a1), (.int i)] h0 [] (RP h0 (fun w => w = .int c0)) := by
  refine MN.mk (a0 := a0) rfl rfl (plainFor_of_name pn1) O (fun m => ef_rmGet m a1 i) ?_
  intro pg ev s m below meth cd T hh X
  subst hh
  refine X.getS (pc' := 3) (wd103 hw) Via.refl SA d25_0 rfl ?_
  intro T X
  refine X.ifY (pc' := 28) d25_3 (by decide) (by decide) (by decide) ?_
  refine X.iloadN (pc' := 29) d25_28 rfl rfl ?_
  refine X.iconst (pc' := 30) (1 : Int32) d25_29 rfl rfl ?_
  refine X.ishl (pc' := 31) d25_30 rfl ?_
  rw [hj]
  refine X.istoreN (pc' := 32) #[.val (.ref a1), .val (.int j)] d25_31 rfl rfl ?_
  refine X.aloadN (pc' := 33) d25_32 rfl rfl rfl ?_
  refine X.iloadN (pc' := 34) d25_33 rfl rfl ?_
  refine X.iinc (pc' := 37) #[.val (.ref a1), .val (.int (j + (1 : Int32)))] d25_34 rfl rfl rfl ?_
  refine X.baload (pc' := 38) (v := StrChars.lo8 c0) V q1 u1 d25_37 rfl ?_
  refine X.sipush (pc' := 41) (255 : Int32) d25_38 rfl rfl ?_
  refine X.iand (pc' := 42) d25_41 rfl ?_
  refine X.getS (pc' := 45) (wd104 hw) Via.refl SH d25_42 rfl ?_
  intro T X
  refine X.ishl (pc' := 46) d25_45 rfl ?_
  refine X.aloadN (pc' := 47) d25_46 rfl rfl rfl ?_
  refine X.iloadN (pc' := 48) d25_47 rfl rfl ?_
  refine X.baload (pc' := 49) (v := StrChars.hi8 c0) V q2 u2 d25_48 rfl ?_
  refine X.sipush (pc' := 52) (255 : Int32) d25_49 rfl rfl ?_
  refine X.iand (pc' := 53) d25_52 rfl ?_
  refine X.getS (pc' := 56) (wd105 hw) Via.refl SL d25_53 rfl ?_
  intro T X
  refine X.ishl (pc' := 57) d25_56 rfl ?_
  refine X.ior (pc' := 58) d25_57 rfl ?_
  refine X.i2c (pc' := 59) d25_58 rfl ?_
  rw [show (((((StrChars.lo8 c0) &&& (255 : Int32)) <<< ((0 : Int32) &&& 31)) ||| (((StrChars.hi8 c0) &&& (255 : Int32)) <<< ((8 : Int32) &&& 31))).toUInt32.toUInt16.toUInt32.toInt32) = c0 from StrChars.pair_says r_c0.1 r_c0.2]
  exact X.retIN (by simp) (StrChars.narrow_ch r_c0.1 r_c0.2) d25_59 (by decide) (by decide) ⟨_, rfl, rfl, rfl⟩
set_option maxRecDepth 65536 in
set_option maxHeartbeats 40000000 in
theorem ef_rmNBL1 (m : MethodId)  : entryFrame m #[(.int (1 : Int32))] 1 = mkF m 0 #[.val (.int (1 : Int32))] [] := by first | (simp [entryFrame, mkF, argsToLocals, Value.category]; done) | (rfl)
set_option maxRecDepth 65536 in
set_option maxHeartbeats 40000000 in
theorem rmNBL1 (l : Launch) (Z : State) (a0 : Array Value) (hw : ∀ d ∈ tables_1, d.before a0 Z = true)  (h0 : Heap) (O : Ext Z.heap h0)  :
    MN l Z (⟨"java/lang/StringUTF16", "newBytesLength", "(I)I"⟩ : MethodName) jdk_52_method_3_code 1 (some .int) [] ({ frames := 0, cells := 0, slots := 0, locals := 0 } : Room) #[(.int (1 : Int32))] h0 [] (RP h0 (fun w => w = .int (2 : Int32))) := by
  refine MN.mk (a0 := a0) rfl rfl (plainFor_of_name pn1) O (fun m => ef_rmNBL1 m ) ?_
  intro pg ev s m below meth cd T hh X
  subst hh
  refine X.iloadN (pc' := 1) d23_0 rfl rfl ?_
  refine X.ifY (pc' := 12) d23_1 (by decide) (by decide) (by decide) ?_
  refine X.iloadN (pc' := 13) d23_12 rfl rfl ?_
  refine X.ldcI (pc' := 15) (wd99 hw) d23_13 rfl ?_
  refine X.icY (pc' := 55) d23_15 (by decide) (by decide) (by decide) ?_
  refine X.iloadN (pc' := 56) d23_55 rfl rfl ?_
  refine X.iconst (pc' := 57) (1 : Int32) d23_56 rfl rfl ?_
  refine X.ishl (pc' := 58) d23_57 rfl ?_
  rw [show (((1 : Int32) <<< ((1 : Int32) &&& 31)) : Int32) = (2 : Int32) from by decide]
  exact X.retIN (by simp) rfl d23_58 (by decide) (by decide) ⟨_, rfl, rfl, rfl⟩
set_option maxRecDepth 65536 in
set_option maxHeartbeats 40000000 in
theorem ef_rmNBF1 (m : MethodId)  : entryFrame m #[(.int (1 : Int32))] 1 = mkF m 0 #[.val (.int (1 : Int32))] [] := by first | (simp [entryFrame, mkF, argsToLocals, Value.category]; done) | (rfl)
set_option maxRecDepth 65536 in
set_option maxHeartbeats 40000000 in
theorem rmNBF1 (l : Launch) (Z : State) (a0 : Array Value) (hw : ∀ d ∈ tables_1, d.before a0 Z = true)  (h0 : Heap) (O : Ext Z.heap h0)  :
    MN l Z (⟨"java/lang/StringUTF16", "newBytesFor", "(I)[B"⟩ : MethodName) jdk_52_method_2_code 1 (some (.array .byte)) [] ({ frames := 1, cells := 1, slots := 2, locals := 12 } : Room) #[(.int (1 : Int32))] h0 [] (RV (fun w h => ∃ t ka, w = .ref t ∧ h0.size ≤ t ∧ Arv Z h t ka .byte (2 : Int32) [(.int (0 : Int32)), (.int (0 : Int32))] (.int 0))) := by
  refine MN.mk (a0 := a0) rfl rfl (plainFor_of_name pn1) O (fun m => ef_rmNBF1 m ) ?_
  intro pg ev s m below meth cd T hh X
  subst hh
  refine X.iloadN (pc' := 1) d22_0 rfl rfl ?_
  refine X.callP (pc' := 4) (X.sStatic (wd96 hw) (wd97 hw) (wd76 hw) (wd98 hw) (by decide) rfl pd1 [(.int (1 : Int32))] rfl rfl d22_1) (rmNBL1 l Z a0 hw _ X.old) (wd98 hw) (wd76 hw) (leB rfl) (leB rfl) (leB rfl) (leB rfl) rfl ?_
  intro T L v X q
  subst q
  refine X.newP (pc' := 6) (aty := .byte) (wd23 hw) d22_4 (by decide) 2 (by decide) (by decide) (by decide) (by decide) rfl ?_
  intro T h b1 ka_b1 g_b1 Ex lt_b1 V_b1 X1
  have z_b1 : Z.heap.size ≤ b1 := by rw [g_b1]; exact X.old.1
  have s_b1 : s.heap.size ≤ b1 := by rw [g_b1]; exact X.kp.1
  replace X := X1
  replace V_b1 : Arv Z h b1 ka_b1 .byte (2 : Int32) [(.int (0 : Int32)), (.int (0 : Int32))] (.int (0 : Int32)) := (Arv.pad V_b1 (pad_rep [] (.int (0 : Int32)) 2))
  exact X.retAN rfl rfl d22_6 (by decide) (by decide) ⟨_, rfl, b1, ka_b1, rfl, s_b1, V_b1⟩
set_option maxRecDepth 65536 in
set_option maxHeartbeats 40000000 in
theorem ef_rmTB1 (m : MethodId) (a1 : Addr) : entryFrame m #[(.ref a1), (.int (0 : Int32)), (.int (1 : Int32))] 5 = mkF m 0 #[.val (.ref a1), .val (.int (0 : Int32)), .val (.int (1 : Int32)), .unset, .unset] [] := by first | (simp [entryFrame, mkF, argsToLocals, Value.category]; done) | (rfl)
set_option maxRecDepth 65536 in
set_option maxHeartbeats 40000000 in
theorem rmTB1 (l : Launch) (Z : State) (a0 : Array Value) (hw : ∀ d ∈ tables_1, d.before a0 Z = true) (a1 : Addr) (h0 : Heap) (O : Ext Z.heap h0) (SA : Sta Z Z.heap "java/lang/StringUTF16" "$assertionsDisabled" "Z" (.int 1)) (SH : Sta Z Z.heap "java/lang/StringUTF16" "HI_BYTE_SHIFT" "I" (.int 0)) (SL : Sta Z Z.heap "java/lang/StringUTF16" "LO_BYTE_SHIFT" "I" (.int 8)) (c0 : Int32) (ka : ClassId) (V_a1 : Arv Z h0 a1 ka .char (1 : Int32) [(.int c0)] (.int 0)) :
    MN l Z (⟨"java/lang/StringUTF16", "toBytes", "([CII)[B"⟩ : MethodName) jdk_52_method_14_code 5 (some (.array .byte)) [] ({ frames := 2, cells := 1, slots := 2, locals := 24 } : Room) #[(.ref a1), (.int (0 : Int32)), (.int (1 : Int32))] h0 [] (RV (fun w h => ∃ t ka, w = .ref t ∧ h0.size ≤ t ∧ Arv Z h t ka .byte (2 : Int32) [(.int (StrChars.lo8 c0)), (.int (StrChars.hi8 c0))] (.int 0))) := by
  refine MN.mk (a0 := a0) rfl rfl (plainFor_of_name pn1) O (fun m => ef_rmTB1 m a1) ?_
  intro pg ev s m below meth cd T hh X
  subst hh
  have lt_a1 := V_a1.lt
  refine X.iloadN (pc' := 1) d21_0 rfl rfl ?_
  refine X.callV (pc' := 4) (X.sStatic (wd93 hw) (wd94 hw) (wd76 hw) (wd95 hw) (by decide) rfl pd2 [(.int (1 : Int32))] rfl rfl d21_1) (rmNBF1 l Z a0 hw _ X.old) (wd95 hw) (wd76 hw) (leB rfl) (leB rfl) (leB rfl) (leB rfl) sf0 all0 all0 rfl ?_
  intro T h L v X K q
  obtain ⟨t1, ka_t1, rfl, le_t1, V_t1⟩ := q
  have ne_a1_t1 : a1 ≠ t1 := Nat.ne_of_lt (Nat.lt_of_lt_of_le lt_a1 le_t1)
  have z_t1 := Nat.le_trans O.1 le_t1
  replace V_a1 := V_a1.keep K nin0
  replace lt_a1 := Nat.lt_of_lt_of_le lt_a1 K.1
  refine X.astoreN (pc' := 5) #[.val (.ref a1), .val (.int (0 : Int32)), .val (.int (1 : Int32)), .val (.ref t1), .unset] d21_4 rfl rfl rfl ?_
  refine X.iconst (pc' := 6) (0 : Int32) d21_5 rfl rfl ?_
  refine X.istore (pc' := 8) #[.val (.ref a1), .val (.int (0 : Int32)), .val (.int (1 : Int32)), .val (.ref t1), .val (.int (0 : Int32))] d21_6 rfl rfl ?_
  refine X.iload (pc' := 10) d21_8 rfl rfl ?_
  refine X.iloadN (pc' := 11) d21_10 rfl rfl ?_
  refine X.icN (pc' := 14) d21_11 (by decide) rfl ?_
  refine X.aloadN (pc' := 15) d21_14 rfl rfl rfl ?_
  refine X.iload (pc' := 17) d21_15 rfl rfl ?_
  refine X.aloadN (pc' := 18) d21_17 rfl rfl rfl ?_
  refine X.iloadN (pc' := 19) d21_18 rfl rfl ?_
  refine X.caload (pc' := 20) (v := c0) V_a1 ⟨by decide, by decide⟩ rfl d21_19 rfl ?_
  refine X.callU (pc' := 23) (X.sStatic (wd100 hw) (wd101 hw) (wd76 hw) (wd102 hw) (by decide) rfl pd3 [(.ref t1), (.int (0 : Int32)), (.int c0)] rfl rfl d21_20) (rmPut l Z a0 hw t1 (0 : Int32) c0 _ X.old SA SH SL (0 : Int32) (by decide) _ _ _ V_t1 ⟨by decide, by decide⟩ ⟨by decide, by decide⟩ 0 rfl rfl (leB rfl) z_t1) (wd102 hw) (wd76 hw) (leB rfl) (leB rfl) (leB rfl) (leB rfl) (sfS safeE sf0) (allS z_t1 all0) (allS (Or.inr le_t1) all0) rfl ?_
  intro T h L X K V1
  replace V_a1 := V_a1.keep K (ninS ne_a1_t1 nin0)
  replace lt_a1 := Nat.lt_of_lt_of_le lt_a1 K.1
  have V_t1 : Arv Z h t1 ka_t1 .byte (2 : Int32) [(.int (StrChars.lo8 c0)), (.int (StrChars.hi8 c0))] (.int 0) := V1
  refine X.iinc (pc' := 26) #[.val (.ref a1), .val (.int (1 : Int32)), .val (.int (1 : Int32)), .val (.ref t1), .val (.int (0 : Int32))] d21_23 rfl rfl rfl ?_
  refine X.iinc (pc' := 29) #[.val (.ref a1), .val (.int (1 : Int32)), .val (.int (1 : Int32)), .val (.ref t1), .val (.int (1 : Int32))] d21_26 rfl rfl rfl ?_
  refine X.goto (pc' := 8) d21_29 (by decide) (by decide) ?_
  refine X.iload (pc' := 10) d21_8 rfl rfl ?_
  refine X.iloadN (pc' := 11) d21_10 rfl rfl ?_
  refine X.icY (pc' := 32) d21_11 (by decide) (by decide) (by decide) ?_
  refine X.aloadN (pc' := 33) d21_32 rfl rfl rfl ?_
  exact X.retAN rfl rfl d21_33 (by decide) (by decide) ⟨_, rfl, t1, ka_t1, rfl, le_t1, V_t1⟩
set_option maxRecDepth 65536 in
set_option maxHeartbeats 40000000 in
theorem ef_rmC5_1 (m : MethodId) (a1 : Addr) (a2 : Addr) : entryFrame m #[(.ref a1), (.int (0 : Int32)), (.ref a2), (.int (0 : Int32)), (.int (1 : Int32))] 7 = mkF m 0 #[.val (.ref a1), .val (.int (0 : Int32)), .val (.ref a2), .val (.int (0 : Int32)), .val (.int (1 : Int32)), .unset, .unset] [] := by first | (simp [entryFrame, mkF, argsToLocals, Value.category]; done) | (rfl)
set_option maxRecDepth 65536 in
set_option maxHeartbeats 40000000 in
theorem rmC5_1 (l : Launch) (Z : State) (a0 : Array Value) (hw : ∀ d ∈ tables_1, d.before a0 Z = true) (a1 : Addr) (a2 : Addr) (h0 : Heap) (O : Ext Z.heap h0) (c0 : Int32) (ka : ClassId) (V_a1 : Arv Z h0 a1 ka .char (1 : Int32) [(.int c0)] (.int 0)) (hbig : (255 : Int32) < c0) (k2 : ClassId) (V_a2 : Arv Z h0 a2 k2 .byte (1 : Int32) [(.int 0)] (.int 0)) (ne12 : a1 ≠ a2) (za : Z.heap.size ≤ a2) :
    MN l Z (⟨"java/lang/StringUTF16", "compress", "([CI[BII)I"⟩ : MethodName) jdk_52_method_21_code 7 (some .int) [] ({ frames := 0, cells := 0, slots := 0, locals := 0 } : Room) #[(.ref a1), (.int (0 : Int32)), (.ref a2), (.int (0 : Int32)), (.int (1 : Int32))] h0 [a2] (RV (fun w h => ∃ i : Int32, w = .int i ∧ ((i = 0 ∧ (255 : Int32) < c0)))) := by
  refine MN.mk (a0 := a0) rfl rfl (plainFor_of_name pn1) O (fun m => ef_rmC5_1 m a1 a2) ?_
  intro pg ev s m below meth cd T hh X
  subst hh
  refine X.iconst (pc' := 1) (0 : Int32) d17_0 rfl rfl ?_
  refine X.istore (pc' := 3) #[.val (.ref a1), .val (.int (0 : Int32)), .val (.ref a2), .val (.int (0 : Int32)), .val (.int (1 : Int32)), .val (.int (0 : Int32)), .unset] d17_1 rfl rfl ?_
  refine X.iload (pc' := 5) d17_3 rfl rfl ?_
  refine X.iload (pc' := 7) d17_5 rfl rfl ?_
  refine X.icN (pc' := 10) d17_7 (by decide) rfl ?_
  refine X.aloadN (pc' := 11) d17_10 rfl rfl rfl ?_
  refine X.iloadN (pc' := 12) d17_11 rfl rfl ?_
  refine X.caload (pc' := 13) (v := c0) V_a1 ⟨by decide, by decide⟩ rfl d17_12 rfl ?_
  refine X.istore (pc' := 15) #[.val (.ref a1), .val (.int (0 : Int32)), .val (.ref a2), .val (.int (0 : Int32)), .val (.int (1 : Int32)), .val (.int (0 : Int32)), .val (.int c0)] d17_13 rfl rfl ?_
  refine X.iload (pc' := 17) d17_15 rfl rfl ?_
  refine X.sipush (pc' := 20) (255 : Int32) d17_17 rfl rfl ?_
  by_cases g0 : (255 : Int32) < c0
  · refine X.icN (pc' := 23) d17_20 ((tlt g0).2.2.2) rfl ?_
    refine X.iload (pc' := 25) d17_23 rfl rfl ?_
    exact X.retIN (by simp) rfl d17_25 (by decide) (by decide) ⟨_, rfl, 0, rfl, ⟨rfl, g0⟩⟩
  · refine X.icY (pc' := 26) d17_20 ((flt g0).2.2.2) (by decide) (by decide) ?_
    refine X.aloadN (pc' := 27) d17_26 rfl rfl rfl ?_
    refine X.iloadN (pc' := 28) d17_27 rfl rfl ?_
    refine X.iload (pc' := 30) d17_28 rfl rfl ?_
    refine X.i2b (pc' := 31) d17_30 rfl ?_
    refine X.bastore (pc' := 32) V_a2 ⟨by decide, by decide⟩ 0 rfl (leB rfl) safeE za (Or.inl (List.mem_of_getElem? (i := 0) rfl)) d17_31 rfl ?_
    intro T h L X W V1
    replace V_a1 := V_a1.other W ne12
    have V_a2 := V1
    refine X.iinc (pc' := 35) #[.val (.ref a1), .val (.int (1 : Int32)), .val (.ref a2), .val (.int (0 : Int32)), .val (.int (1 : Int32)), .val (.int (0 : Int32)), .val (.int c0)] d17_32 rfl rfl rfl ?_
    refine X.iinc (pc' := 38) #[.val (.ref a1), .val (.int (1 : Int32)), .val (.ref a2), .val (.int (1 : Int32)), .val (.int (1 : Int32)), .val (.int (0 : Int32)), .val (.int c0)] d17_35 rfl rfl rfl ?_
    refine X.iinc (pc' := 41) #[.val (.ref a1), .val (.int (1 : Int32)), .val (.ref a2), .val (.int (1 : Int32)), .val (.int (1 : Int32)), .val (.int (1 : Int32)), .val (.int c0)] d17_38 rfl rfl rfl ?_
    refine X.goto (pc' := 3) d17_41 (by decide) (by decide) ?_
    refine X.iload (pc' := 5) d17_3 rfl rfl ?_
    refine X.iload (pc' := 7) d17_5 rfl rfl ?_
    exact absurd hbig (by exact g0)
set_option maxRecDepth 65536 in
set_option maxHeartbeats 40000000 in
theorem ef_rmC3_1 (m : MethodId) (a1 : Addr) : entryFrame m #[(.ref a1), (.int (0 : Int32)), (.int (1 : Int32))] 6 = mkF m 0 #[.val (.ref a1), .val (.int (0 : Int32)), .val (.int (1 : Int32)), .unset, .unset, .unset] [] := by first | (simp [entryFrame, mkF, argsToLocals, Value.category]; done) | (rfl)
set_option maxRecDepth 65536 in
set_option maxHeartbeats 40000000 in
theorem rmC3_1 (l : Launch) (Z : State) (a0 : Array Value) (hw : ∀ d ∈ tables_1, d.before a0 Z = true) (a1 : Addr) (h0 : Heap) (O : Ext Z.heap h0) (SA : Sta Z Z.heap "java/lang/StringUTF16" "$assertionsDisabled" "Z" (.int 1)) (SH : Sta Z Z.heap "java/lang/StringUTF16" "HI_BYTE_SHIFT" "I" (.int 0)) (SL : Sta Z Z.heap "java/lang/StringUTF16" "LO_BYTE_SHIFT" "I" (.int 8)) (c0 : Int32) (ka : ClassId) (V_a1 : Arv Z h0 a1 ka .char (1 : Int32) [(.int c0)] (.int 0)) (r_c0 : ¬ c0 < 0 ∧ ¬ (65535 : Int32) < c0) (hbig : (255 : Int32) < c0) :
    MN l Z (⟨"java/lang/StringUTF16", "compress", "([CII)[B"⟩ : MethodName) jdk_52_method_16_code 6 (some (.array .byte)) [] ({ frames := 3, cells := 2, slots := 3, locals := 40 } : Room) #[(.ref a1), (.int (0 : Int32)), (.int (1 : Int32))] h0 [] (RV (fun w h => ∃ t ka, w = .ref t ∧ h0.size ≤ t ∧ Arv Z h t ka .byte (2 : Int32) [(.int (StrChars.lo8 c0)), (.int (StrChars.hi8 c0))] (.int 0))) := by
  refine MN.mk (a0 := a0) rfl rfl (plainFor_of_name pn1) O (fun m => ef_rmC3_1 m a1) ?_
  intro pg ev s m below meth cd T hh X
  subst hh
  have lt_a1 := V_a1.lt
  refine X.iloadN (pc' := 1) d16_0 rfl rfl ?_
  refine X.newP (pc' := 3) (aty := .byte) (wd23 hw) d16_1 (by decide) 1 (by decide) (by decide) (by decide) (by decide) rfl ?_
  intro T h b1 ka_b1 g_b1 Ex lt_b1 V_b1 X1
  have z_b1 : Z.heap.size ≤ b1 := by rw [g_b1]; exact X.old.1
  have s_b1 : s.heap.size ≤ b1 := by rw [g_b1]; exact X.kp.1
  have ne_a1_b1 : a1 ≠ b1 := Nat.ne_of_lt (by rw [g_b1]; exact lt_a1)
  replace V_a1 := V_a1.ext Ex
  replace lt_a1 := Nat.lt_of_lt_of_le lt_a1 Ex.1
  replace X := X1
  replace V_b1 : Arv Z h b1 ka_b1 .byte (1 : Int32) [(.int (0 : Int32))] (.int (0 : Int32)) := (Arv.pad V_b1 (pad_rep [] (.int (0 : Int32)) 1))
  refine X.astoreN (pc' := 4) #[.val (.ref a1), .val (.int (0 : Int32)), .val (.int (1 : Int32)), .val (.ref b1), .unset, .unset] d16_3 rfl rfl rfl ?_
  refine X.aloadN (pc' := 5) d16_4 rfl rfl rfl ?_
  refine X.iloadN (pc' := 6) d16_5 rfl rfl ?_
  refine X.aloadN (pc' := 7) d16_6 rfl rfl rfl ?_
  refine X.iconst (pc' := 8) (0 : Int32) d16_7 rfl rfl ?_
  refine X.iloadN (pc' := 9) d16_8 rfl rfl ?_
  refine X.callV (pc' := 12) (X.sStatic (wd78 hw) (wd79 hw) (wd76 hw) (wd80 hw) (by decide) rfl pd4 [(.ref a1), (.int (0 : Int32)), (.ref b1), (.int (0 : Int32)), (.int (1 : Int32))] rfl rfl d16_9) (rmC5_1 l Z a0 hw a1 b1 _ X.old c0 _ V_a1 hbig _ V_b1 ne_a1_b1 z_b1) (wd80 hw) (wd76 hw) (leB rfl) (leB rfl) (leB rfl) (leB rfl) (sfS safeE sf0) (allS z_b1 all0) (allS (Or.inr s_b1) all0) rfl ?_
  intro T h L v X K q
  obtain ⟨i, rfl, hi⟩ := q
  replace V_a1 := V_a1.keep K (ninS ne_a1_b1 nin0)
  replace lt_a1 := Nat.lt_of_lt_of_le lt_a1 K.1
  replace lt_b1 := Nat.lt_of_lt_of_le lt_b1 K.1
  refine X.istore (pc' := 14) #[.val (.ref a1), .val (.int (0 : Int32)), .val (.int (1 : Int32)), .val (.ref b1), .val (.int i), .unset] d16_12 rfl rfl ?_
  refine X.iload (pc' := 16) d16_14 rfl rfl ?_
  refine X.iloadN (pc' := 17) d16_16 rfl rfl ?_
  have hne : ¬ i = (1 : Int32) := by rcases hi with ⟨rfl, _⟩ <;> decide
  refine X.icN (pc' := 20) d16_17 ((feq hne).1) rfl ?_
  refine X.aloadN (pc' := 21) d16_20 rfl rfl rfl ?_
  refine X.iloadN (pc' := 22) d16_21 rfl rfl ?_
  refine X.iloadN (pc' := 23) d16_22 rfl rfl ?_
  have X0 := X
  refine X.callV (pc' := 26) (X.sStatic (wd90 hw) (wd91 hw) (wd76 hw) (wd92 hw) (by decide) rfl pd5 [(.ref a1), (.int (0 : Int32)), (.int (1 : Int32))] rfl rfl d16_23) (rmTB1 l Z a0 hw a1 _ X.old SA SH SL c0 _ V_a1) (wd92 hw) (wd76 hw) (leB rfl) (leB rfl) (leB rfl) (leB rfl) sf0 all0 all0 rfl ?_
  intro T h L v X K q
  have sz0 := X0.kp.1
  obtain ⟨t1, ka_t1, rfl, le_t1, V_t1⟩ := q
  have sz_t1 := Nat.le_trans sz0 le_t1
  replace V_a1 := V_a1.keep K nin0
  replace lt_a1 := Nat.lt_of_lt_of_le lt_a1 K.1
  replace lt_b1 := Nat.lt_of_lt_of_le lt_b1 K.1
  refine X.astore (pc' := 28) #[.val (.ref a1), .val (.int (0 : Int32)), .val (.int (1 : Int32)), .val (.ref b1), .val (.int i), .val (.ref t1)] d16_26 rfl rfl rfl ?_
  refine X.aload (pc' := 30) d16_28 rfl rfl rfl ?_
  refine X.iload (pc' := 32) d16_30 rfl rfl ?_
  rcases hi with ⟨rfl, hgt⟩
  refine X.callP (pc' := 35) (X.sStatic (wd106 hw) (wd107 hw) (wd76 hw) (wd108 hw) (by decide) rfl pd6 [(.ref t1), (.int (0 : Int32))] rfl rfl d16_32) (rmGet l Z a0 hw t1 (0 : Int32) _ X.old SA SH SL (0 : Int32) (by decide) _ _ _ V_t1 ⟨by decide, by decide⟩ ⟨by decide, by decide⟩ c0 r_c0 rfl rfl) (wd108 hw) (wd76 hw) (leB rfl) (leB rfl) (leB rfl) (leB rfl) rfl ?_
  intro T L v X q
  subst q
  refine X.sipush (pc' := 38) (255 : Int32) d16_35 rfl rfl ?_
  refine X.icY (pc' := 54) d16_38 ((tlt hgt).2.2.1) (by decide) (by decide) ?_
  refine X.aload (pc' := 56) d16_54 rfl rfl rfl ?_
  exact X.retAN rfl rfl d16_56 (by decide) (by decide) ⟨_, rfl, t1, ka_t1, rfl, sz_t1, V_t1⟩
set_option maxRecDepth 65536 in
set_option maxHeartbeats 40000000 in
theorem ef_rmCFA1 (m : MethodId) (a1 : Addr) : entryFrame m #[(.ref a1), (.int (1 : Int32))] 2 = mkF m 0 #[.val (.ref a1), .val (.int (1 : Int32))] [] := by first | (simp [entryFrame, mkF, argsToLocals, Value.category]; done) | (rfl)
set_option maxRecDepth 65536 in
set_option maxHeartbeats 40000000 in
theorem rmCFA1 (l : Launch) (Z : State) (a0 : Array Value) (hw : ∀ d ∈ tables_1, d.before a0 Z = true) (a1 : Addr) (h0 : Heap) (O : Ext Z.heap h0) (ka : ClassId) (vs : List Value) (V : Arv Z h0 a1 ka .byte (2 : Int32) vs (.int 0)) :
    MN l Z (⟨"java/lang/StringUTF16", "coderFromArrayLen", "([BI)B"⟩ : MethodName) jdk_52_method_15_code 2 (some .byte) [] ({ frames := 0, cells := 0, slots := 0, locals := 0 } : Room) #[(.ref a1), (.int (1 : Int32))] h0 [] (RP h0 (fun w => w = .int 1)) := by
  refine MN.mk (a0 := a0) rfl rfl (plainFor_of_name pn1) O (fun m => ef_rmCFA1 m a1) ?_
  intro pg ev s m below meth cd T hh X
  subst hh
  refine X.iloadN (pc' := 1) d18_0 rfl rfl ?_
  refine X.aloadN (pc' := 2) d18_1 rfl rfl rfl ?_
  refine X.alen (pc' := 3) V d18_2 rfl ?_
  refine X.isub (pc' := 4) d18_3 rfl ?_
  refine X.bipush (pc' := 6) (31 : Int32) d18_4 rfl rfl ?_
  refine X.iushr (pc' := 7) d18_6 rfl ?_
  refine X.i2b (pc' := 8) d18_7 rfl ?_
  rw [show ((((((1 : Int32) - (2 : Int32)).toUInt32 >>> ((31 : Int32) &&& 31).toUInt32).toInt32).toInt8.toInt32) : Int32) = (1 : Int32) from by decide]
  exact X.retIN (by simp) rfl d18_8 (by decide) (by decide) ⟨_, rfl, rfl, rfl⟩
set_option maxRecDepth 65536 in
set_option maxHeartbeats 40000000 in
theorem ef_rmU4_1 (m : MethodId) (a1 : Addr) (a2 : Addr) : entryFrame m #[(.ref a1), (.ref a2), (.int (0 : Int32)), (.int (1 : Int32)), .null] 6 = mkF m 0 #[.val (.ref a1), .val (.ref a2), .val (.int (0 : Int32)), .val (.int (1 : Int32)), .val .null, .unset] [] := by first | (simp [entryFrame, mkF, argsToLocals, Value.category]; done) | (rfl)
set_option maxRecDepth 65536 in
set_option maxHeartbeats 40000000 in
theorem rmU4_1 (l : Launch) (Z : State) (a0 : Array Value) (hw : ∀ d ∈ tables_1, d.before a0 Z = true) (a1 : Addr) (a2 : Addr) (h0 : Heap) (O : Ext Z.heap h0) (z : Int32) (O2 : Sta Z Z.heap "java/lang/String" "COMPACT_STRINGS" "Z" (.int z)) (hz : ¬ z = 0) (SA : Sta Z Z.heap "java/lang/StringUTF16" "$assertionsDisabled" "Z" (.int 1)) (SH : Sta Z Z.heap "java/lang/StringUTF16" "HI_BYTE_SHIFT" "I" (.int 0)) (SL : Sta Z Z.heap "java/lang/StringUTF16" "LO_BYTE_SHIFT" "I" (.int 8)) (za : Z.heap.size ≤ a1) (E_a1 : Exa Z h0 a1 "java/lang/String") (F_a1_value : Fld Z h0 a1 "java/lang/String" "value" "[B" .null) (F_a1_coder : Fld Z h0 a1 "java/lang/String" "coder" "B" (.int 0)) (c0 : Int32) (ka : ClassId) (V_a2 : Arv Z h0 a2 ka .char (1 : Int32) [(.int c0)] (.int 0)) (r_c0 : ¬ c0 < 0 ∧ ¬ (65535 : Int32) < c0) (hbig : (255 : Int32) < c0) :
    MN l Z (⟨"java/lang/String", "<init>", "([CIILjava/lang/Void;)V"⟩ : MethodName) jdk_42_method_149_code 6 none [] ({ frames := 4, cells := 2, slots := 3, locals := 57 } : Room) #[(.ref a1), (.ref a2), (.int (0 : Int32)), (.int (1 : Int32)), .null] h0 [a1] (RU (fun h => Str Z h a1 [c0])) := by
  refine MN.mk (a0 := a0) rfl rfl (plainFor_of_name pn0) O (fun m => ef_rmU4_1 m a1 a2) ?_
  intro pg ev s m below meth cd T hh X
  subst hh
  have lt_a1 := E_a1.lt
  refine X.aloadN (pc' := 1) d4_0 rfl rfl rfl ?_
  refine X.initO (pc' := 4) (wd19 hw) (wd20 hw) (wd21 hw) rfl d4_1 (leB rfl) (leB rfl) rfl ?_
  intro T X
  refine X.iloadN (pc' := 5) d4_4 rfl rfl ?_
  refine X.ifY (pc' := 27) d4_5 (by decide) (by decide) (by decide) ?_
  refine X.getS (pc' := 30) (wd49 hw) Via.refl O2 d4_27 rfl ?_
  intro T X
  refine X.ifN (pc' := 33) d4_30 ((if0 _ _).trans (feq hz).1) rfl ?_
  refine X.aloadN (pc' := 34) d4_33 rfl rfl rfl ?_
  refine X.iloadN (pc' := 35) d4_34 rfl rfl ?_
  refine X.iloadN (pc' := 36) d4_35 rfl rfl ?_
  refine X.callV (pc' := 39) (X.sStatic (wd74 hw) (wd75 hw) (wd76 hw) (wd77 hw) (by decide) rfl pd5 [(.ref a2), (.int (0 : Int32)), (.int (1 : Int32))] rfl rfl d4_36) (rmC3_1 l Z a0 hw a2 _ X.old SA SH SL c0 _ V_a2 r_c0 hbig) (wd77 hw) (wd76 hw) (leB rfl) (leB rfl) (leB rfl) (leB rfl) sf0 all0 all0 rfl ?_
  intro T h L v X K q
  obtain ⟨t1, ka_t1, rfl, le_t1, V_t1⟩ := q
  have ne_a1_t1 : a1 ≠ t1 := Nat.ne_of_lt (Nat.lt_of_lt_of_le lt_a1 le_t1)
  replace F_a1_value := F_a1_value.keep K nin0
  replace F_a1_coder := F_a1_coder.keep K nin0
  replace E_a1 := E_a1.keep K
  replace lt_a1 := Nat.lt_of_lt_of_le lt_a1 K.1
  refine X.astore (pc' := 41) #[.val (.ref a1), .val (.ref a2), .val (.int (0 : Int32)), .val (.int (1 : Int32)), .val .null, .val (.ref t1)] d4_39 rfl rfl rfl ?_
  refine X.aloadN (pc' := 42) d4_41 rfl rfl rfl ?_
  refine X.aload (pc' := 44) d4_42 rfl rfl rfl ?_
  refine X.iloadN (pc' := 45) d4_44 rfl rfl ?_
  refine X.callP (pc' := 48) (X.sStatic (wd81 hw) (wd82 hw) (wd76 hw) (wd83 hw) (by decide) rfl pd7 [(.ref t1), (.int (1 : Int32))] rfl rfl d4_45) (rmCFA1 l Z a0 hw t1 _ X.old _ _ V_t1) (wd83 hw) (wd76 hw) (leB rfl) (leB rfl) (leB rfl) (leB rfl) rfl ?_
  intro T L v X q
  subst q
  refine X.putF (pc' := 51) (wd29 hw) Via.refl F_a1_coder E_a1 (Or.inr ⟨(wd25 hw), rfl, rfl⟩) (wd9 hw) .byte (by decide) rfl rfl safeE za (Or.inl (List.mem_of_getElem? (i := 0) rfl)) d4_48 rfl ?_
  intro T h L X W
  replace F_a1_value := F_a1_value.other W (Or.inr (slot_ne (Or.inr (wd24 hw)) (Or.inr (wd25 hw)) (by decide) (t := (.array .byte)) (t' := .byte) (by decide) (by decide)))
  replace E_a1 := E_a1.wr W
  replace lt_a1 := Nat.lt_of_lt_of_le lt_a1 (Keep.of_wr W).1
  replace V_t1 := V_t1.other W (Ne.symm ne_a1_t1)
  replace F_a1_coder := F_a1_coder.same W
  refine X.aloadN (pc' := 52) d4_51 rfl rfl rfl ?_
  refine X.aload (pc' := 54) d4_52 rfl rfl rfl ?_
  refine X.putF (pc' := 57) (wd28 hw) Via.refl F_a1_value E_a1 (Or.inr ⟨(wd24 hw), rfl, rfl⟩) (wd9 hw) (.array .byte) (by decide) rfl rfl safeE za (Or.inl (List.mem_of_getElem? (i := 0) rfl)) d4_54 rfl ?_
  intro T h L X W
  replace F_a1_coder := F_a1_coder.other W (Or.inr (slot_ne (Or.inr (wd25 hw)) (Or.inr (wd24 hw)) (by decide) (t := .byte) (t' := (.array .byte)) (by decide) (by decide)))
  replace E_a1 := E_a1.wr W
  replace lt_a1 := Nat.lt_of_lt_of_le lt_a1 (Keep.of_wr W).1
  replace V_t1 := V_t1.other W (Ne.symm ne_a1_t1)
  replace F_a1_value := F_a1_value.same W
  have hex : ∃ c ∈ [c0], (255 : Int32) < c := by
    have q := hbig
    · exact ⟨c0, by simp, q⟩
  exact X.retUN d4_57 (by decide) (by decide) ⟨rfl, t1, ka_t1, 1, (2 : Int32), _, E_a1, F_a1_value, F_a1_coder, V_t1, Or.inr ⟨rfl, rfl, rfl, hex⟩, (allC r_c0 allN), by simp⟩
set_option maxRecDepth 65536 in
set_option maxHeartbeats 40000000 in
theorem ef_rmU1_1 (m : MethodId) (a1 : Addr) (a2 : Addr) : entryFrame m #[(.ref a1), (.ref a2)] 2 = mkF m 0 #[.val (.ref a1), .val (.ref a2)] [] := by first | (simp [entryFrame, mkF, argsToLocals, Value.category]; done) | (rfl)
set_option maxRecDepth 65536 in
set_option maxHeartbeats 40000000 in
theorem rmU1_1 (l : Launch) (Z : State) (a0 : Array Value) (hw : ∀ d ∈ tables_1, d.before a0 Z = true) (a1 : Addr) (a2 : Addr) (h0 : Heap) (O : Ext Z.heap h0) (z : Int32) (O2 : Sta Z Z.heap "java/lang/String" "COMPACT_STRINGS" "Z" (.int z)) (hz : ¬ z = 0) (SA : Sta Z Z.heap "java/lang/StringUTF16" "$assertionsDisabled" "Z" (.int 1)) (SH : Sta Z Z.heap "java/lang/StringUTF16" "HI_BYTE_SHIFT" "I" (.int 0)) (SL : Sta Z Z.heap "java/lang/StringUTF16" "LO_BYTE_SHIFT" "I" (.int 8)) (za : Z.heap.size ≤ a1) (E_a1 : Exa Z h0 a1 "java/lang/String") (F_a1_value : Fld Z h0 a1 "java/lang/String" "value" "[B" .null) (F_a1_coder : Fld Z h0 a1 "java/lang/String" "coder" "B" (.int 0)) (c0 : Int32) (ka : ClassId) (V_a2 : Arv Z h0 a2 ka .char (1 : Int32) [(.int c0)] (.int 0)) (r_c0 : ¬ c0 < 0 ∧ ¬ (65535 : Int32) < c0) (hbig : (255 : Int32) < c0) :
    MN l Z (⟨"java/lang/String", "<init>", "([C)V"⟩ : MethodName) jdk_42_method_3_code 2 none [] ({ frames := 5, cells := 2, slots := 3, locals := 74 } : Room) #[(.ref a1), (.ref a2)] h0 [a1] (RU (fun h => Str Z h a1 [c0])) := by
  refine MN.mk (a0 := a0) rfl rfl (plainFor_of_name pn0) O (fun m => ef_rmU1_1 m a1 a2) ?_
  intro pg ev s m below meth cd T hh X
  subst hh
  refine X.aloadN (pc' := 1) d3_0 rfl rfl rfl ?_
  refine X.aloadN (pc' := 2) d3_1 rfl rfl rfl ?_
  refine X.iconst (pc' := 3) (0 : Int32) d3_2 rfl rfl ?_
  refine X.aloadN (pc' := 4) d3_3 rfl rfl rfl ?_
  refine X.alen (pc' := 5) V_a2 d3_4 rfl ?_
  refine X.aconstNull (pc' := 6) d3_5 rfl ?_
  refine X.callU (pc' := 9) (X.sSpecial rfl (wd15 hw) (wd16 hw) (wd18 hw) (by decide) rfl pd0 [(.ref a2), (.int (0 : Int32)), (.int (1 : Int32)), .null] rfl rfl d3_6) (rmU4_1 l Z a0 hw a1 a2 _ X.old z O2 hz SA SH SL za E_a1 F_a1_value F_a1_coder c0 _ V_a2 r_c0 hbig) (wd18 hw) (wd10 hw) (leB rfl) (leB rfl) (leB rfl) (leB rfl) (sfS safeE sf0) (allS za all0) (allS (Or.inl (List.mem_of_getElem? (i := 0) rfl)) all0) rfl ?_
  intro T h L X K q
  exact X.retUN d3_9 (by decide) (by decide) ⟨rfl, q⟩
set_option maxRecDepth 65536 in
set_option maxHeartbeats 40000000 in
theorem ef_rmNBL2 (m : MethodId)  : entryFrame m #[(.int (2 : Int32))] 1 = mkF m 0 #[.val (.int (2 : Int32))] [] := by first | (simp [entryFrame, mkF, argsToLocals, Value.category]; done) | (rfl)
set_option maxRecDepth 65536 in
set_option maxHeartbeats 40000000 in
theorem rmNBL2 (l : Launch) (Z : State) (a0 : Array Value) (hw : ∀ d ∈ tables_1, d.before a0 Z = true)  (h0 : Heap) (O : Ext Z.heap h0)  :
    MN l Z (⟨"java/lang/StringUTF16", "newBytesLength", "(I)I"⟩ : MethodName) jdk_52_method_3_code 1 (some .int) [] ({ frames := 0, cells := 0, slots := 0, locals := 0 } : Room) #[(.int (2 : Int32))] h0 [] (RP h0 (fun w => w = .int (4 : Int32))) := by
  refine MN.mk (a0 := a0) rfl rfl (plainFor_of_name pn1) O (fun m => ef_rmNBL2 m ) ?_
  intro pg ev s m below meth cd T hh X
  subst hh
  refine X.iloadN (pc' := 1) d23_0 rfl rfl ?_
  refine X.ifY (pc' := 12) d23_1 (by decide) (by decide) (by decide) ?_
  refine X.iloadN (pc' := 13) d23_12 rfl rfl ?_
  refine X.ldcI (pc' := 15) (wd99 hw) d23_13 rfl ?_
  refine X.icY (pc' := 55) d23_15 (by decide) (by decide) (by decide) ?_
  refine X.iloadN (pc' := 56) d23_55 rfl rfl ?_
  refine X.iconst (pc' := 57) (1 : Int32) d23_56 rfl rfl ?_
  refine X.ishl (pc' := 58) d23_57 rfl ?_
  rw [show (((2 : Int32) <<< ((1 : Int32) &&& 31)) : Int32) = (4 : Int32) from by decide]
  exact X.retIN (by simp) rfl d23_58 (by decide) (by decide) ⟨_, rfl, rfl, rfl⟩
set_option maxRecDepth 65536 in
set_option maxHeartbeats 40000000 in
theorem ef_rmNBF2 (m : MethodId)  : entryFrame m #[(.int (2 : Int32))] 1 = mkF m 0 #[.val (.int (2 : Int32))] [] := by first | (simp [entryFrame, mkF, argsToLocals, Value.category]; done) | (rfl)
set_option maxRecDepth 65536 in
set_option maxHeartbeats 40000000 in
theorem rmNBF2 (l : Launch) (Z : State) (a0 : Array Value) (hw : ∀ d ∈ tables_1, d.before a0 Z = true)  (h0 : Heap) (O : Ext Z.heap h0)  :
    MN l Z (⟨"java/lang/StringUTF16", "newBytesFor", "(I)[B"⟩ : MethodName) jdk_52_method_2_code 1 (some (.array .byte)) [] ({ frames := 1, cells := 1, slots := 4, locals := 12 } : Room) #[(.int (2 : Int32))] h0 [] (RV (fun w h => ∃ t ka, w = .ref t ∧ h0.size ≤ t ∧ Arv Z h t ka .byte (4 : Int32) [(.int (0 : Int32)), (.int (0 : Int32)), (.int (0 : Int32)), (.int (0 : Int32))] (.int 0))) := by
  refine MN.mk (a0 := a0) rfl rfl (plainFor_of_name pn1) O (fun m => ef_rmNBF2 m ) ?_
  intro pg ev s m below meth cd T hh X
  subst hh
  refine X.iloadN (pc' := 1) d22_0 rfl rfl ?_
  refine X.callP (pc' := 4) (X.sStatic (wd96 hw) (wd97 hw) (wd76 hw) (wd98 hw) (by decide) rfl pd1 [(.int (2 : Int32))] rfl rfl d22_1) (rmNBL2 l Z a0 hw _ X.old) (wd98 hw) (wd76 hw) (leB rfl) (leB rfl) (leB rfl) (leB rfl) rfl ?_
  intro T L v X q
  subst q
  refine X.newP (pc' := 6) (aty := .byte) (wd23 hw) d22_4 (by decide) 4 (by decide) (by decide) (by decide) (by decide) rfl ?_
  intro T h b1 ka_b1 g_b1 Ex lt_b1 V_b1 X1
  have z_b1 : Z.heap.size ≤ b1 := by rw [g_b1]; exact X.old.1
  have s_b1 : s.heap.size ≤ b1 := by rw [g_b1]; exact X.kp.1
  replace X := X1
  replace V_b1 : Arv Z h b1 ka_b1 .byte (4 : Int32) [(.int (0 : Int32)), (.int (0 : Int32)), (.int (0 : Int32)), (.int (0 : Int32))] (.int (0 : Int32)) := (Arv.pad V_b1 (pad_rep [] (.int (0 : Int32)) 4))
  exact X.retAN rfl rfl d22_6 (by decide) (by decide) ⟨_, rfl, b1, ka_b1, rfl, s_b1, V_b1⟩
set_option maxRecDepth 65536 in
set_option maxHeartbeats 40000000 in
theorem ef_rmTB2 (m : MethodId) (a1 : Addr) : entryFrame m #[(.ref a1), (.int (0 : Int32)), (.int (2 : Int32))] 5 = mkF m 0 #[.val (.ref a1), .val (.int (0 : Int32)), .val (.int (2 : Int32)), .unset, .unset] [] := by first | (simp [entryFrame, mkF, argsToLocals, Value.category]; done) | (rfl)
set_option maxRecDepth 65536 in
set_option maxHeartbeats 40000000 in
theorem rmTB2 (l : Launch) (Z : State) (a0 : Array Value) (hw : ∀ d ∈ tables_1, d.before a0 Z = true) (a1 : Addr) (h0 : Heap) (O : Ext Z.heap h0) (SA : Sta Z Z.heap "java/lang/StringUTF16" "$assertionsDisabled" "Z" (.int 1)) (SH : Sta Z Z.heap "java/lang/StringUTF16" "HI_BYTE_SHIFT" "I" (.int 0)) (SL : Sta Z Z.heap "java/lang/StringUTF16" "LO_BYTE_SHIFT" "I" (.int 8)) (c0 c1 : Int32) (ka : ClassId) (V_a1 : Arv Z h0 a1 ka .char (2 : Int32) [(.int c0), (.int c1)] (.int 0)) :
    MN l Z (⟨"java/lang/StringUTF16", "toBytes", "([CII)[B"⟩ : MethodName) jdk_52_method_14_code 5 (some (.array .byte)) [] ({ frames := 2, cells := 1, slots := 4, locals := 24 } : Room) #[(.ref a1), (.int (0 : Int32)), (.int (2 : Int32))] h0 [] (RV (fun w h => ∃ t ka, w = .ref t ∧ h0.size ≤ t ∧ Arv Z h t ka .byte (4 : Int32) [(.int (StrChars.lo8 c0)), (.int (StrChars.hi8 c0)), (.int (StrChars.lo8 c1)), (.int (StrChars.hi8 c1))] (.int 0))) := by
  refine MN.mk (a0 := a0) rfl rfl (plainFor_of_name pn1) O (fun m => ef_rmTB2 m a1) ?_
  intro pg ev s m below meth cd T hh X
  subst hh
  have lt_a1 := V_a1.lt
  refine X.iloadN (pc' := 1) d21_0 rfl rfl ?_
  refine X.callV (pc' := 4) (X.sStatic (wd93 hw) (wd94 hw) (wd76 hw) (wd95 hw) (by decide) rfl pd2 [(.int (2 : Int32))] rfl rfl d21_1) (rmNBF2 l Z a0 hw _ X.old) (wd95 hw) (wd76 hw) (leB rfl) (leB rfl) (leB rfl) (leB rfl) sf0 all0 all0 rfl ?_
  intro T h L v X K q
  obtain ⟨t1, ka_t1, rfl, le_t1, V_t1⟩ := q
  have ne_a1_t1 : a1 ≠ t1 := Nat.ne_of_lt (Nat.lt_of_lt_of_le lt_a1 le_t1)
  have z_t1 := Nat.le_trans O.1 le_t1
  replace V_a1 := V_a1.keep K nin0
  replace lt_a1 := Nat.lt_of_lt_of_le lt_a1 K.1
  refine X.astoreN (pc' := 5) #[.val (.ref a1), .val (.int (0 : Int32)), .val (.int (2 : Int32)), .val (.ref t1), .unset] d21_4 rfl rfl rfl ?_
  refine X.iconst (pc' := 6) (0 : Int32) d21_5 rfl rfl ?_
  refine X.istore (pc' := 8) #[.val (.ref a1), .val (.int (0 : Int32)), .val (.int (2 : Int32)), .val (.ref t1), .val (.int (0 : Int32))] d21_6 rfl rfl ?_
  refine X.iload (pc' := 10) d21_8 rfl rfl ?_
  refine X.iloadN (pc' := 11) d21_10 rfl rfl ?_
  refine X.icN (pc' := 14) d21_11 (by decide) rfl ?_
  refine X.aloadN (pc' := 15) d21_14 rfl rfl rfl ?_
  refine X.iload (pc' := 17) d21_15 rfl rfl ?_
  refine X.aloadN (pc' := 18) d21_17 rfl rfl rfl ?_
  refine X.iloadN (pc' := 19) d21_18 rfl rfl ?_
  refine X.caload (pc' := 20) (v := c0) V_a1 ⟨by decide, by decide⟩ rfl d21_19 rfl ?_
  refine X.callU (pc' := 23) (X.sStatic (wd100 hw) (wd101 hw) (wd76 hw) (wd102 hw) (by decide) rfl pd3 [(.ref t1), (.int (0 : Int32)), (.int c0)] rfl rfl d21_20) (rmPut l Z a0 hw t1 (0 : Int32) c0 _ X.old SA SH SL (0 : Int32) (by decide) _ _ _ V_t1 ⟨by decide, by decide⟩ ⟨by decide, by decide⟩ 0 rfl rfl (leB rfl) z_t1) (wd102 hw) (wd76 hw) (leB rfl) (leB rfl) (leB rfl) (leB rfl) (sfS safeE sf0) (allS z_t1 all0) (allS (Or.inr le_t1) all0) rfl ?_
  intro T h L X K V1
  replace V_a1 := V_a1.keep K (ninS ne_a1_t1 nin0)
  replace lt_a1 := Nat.lt_of_lt_of_le lt_a1 K.1
  have V_t1 : Arv Z h t1 ka_t1 .byte (4 : Int32) [(.int (StrChars.lo8 c0)), (.int (StrChars.hi8 c0)), (.int (0 : Int32)), (.int (0 : Int32))] (.int 0) := V1
  refine X.iinc (pc' := 26) #[.val (.ref a1), .val (.int (1 : Int32)), .val (.int (2 : Int32)), .val (.ref t1), .val (.int (0 : Int32))] d21_23 rfl rfl rfl ?_
  refine X.iinc (pc' := 29) #[.val (.ref a1), .val (.int (1 : Int32)), .val (.int (2 : Int32)), .val (.ref t1), .val (.int (1 : Int32))] d21_26 rfl rfl rfl ?_
  refine X.goto (pc' := 8) d21_29 (by decide) (by decide) ?_
  refine X.iload (pc' := 10) d21_8 rfl rfl ?_
  refine X.iloadN (pc' := 11) d21_10 rfl rfl ?_
  refine X.icN (pc' := 14) d21_11 (by decide) rfl ?_
  refine X.aloadN (pc' := 15) d21_14 rfl rfl rfl ?_
  refine X.iload (pc' := 17) d21_15 rfl rfl ?_
  refine X.aloadN (pc' := 18) d21_17 rfl rfl rfl ?_
  refine X.iloadN (pc' := 19) d21_18 rfl rfl ?_
  refine X.caload (pc' := 20) (v := c1) V_a1 ⟨by decide, by decide⟩ rfl d21_19 rfl ?_
  refine X.callU (pc' := 23) (X.sStatic (wd100 hw) (wd101 hw) (wd76 hw) (wd102 hw) (by decide) rfl pd3 [(.ref t1), (.int (1 : Int32)), (.int c1)] rfl rfl d21_20) (rmPut l Z a0 hw t1 (1 : Int32) c1 _ X.old SA SH SL (2 : Int32) (by decide) _ _ _ V_t1 ⟨by decide, by decide⟩ ⟨by decide, by decide⟩ 2 rfl rfl (leB rfl) z_t1) (wd102 hw) (wd76 hw) (leB rfl) (leB rfl) (leB rfl) (leB rfl) (sfS safeE sf0) (allS z_t1 all0) (allS (Or.inr le_t1) all0) rfl ?_
  intro T h L X K V1
  replace V_a1 := V_a1.keep K (ninS ne_a1_t1 nin0)
  replace lt_a1 := Nat.lt_of_lt_of_le lt_a1 K.1
  have V_t1 : Arv Z h t1 ka_t1 .byte (4 : Int32) [(.int (StrChars.lo8 c0)), (.int (StrChars.hi8 c0)), (.int (StrChars.lo8 c1)), (.int (StrChars.hi8 c1))] (.int 0) := V1
  refine X.iinc (pc' := 26) #[.val (.ref a1), .val (.int (2 : Int32)), .val (.int (2 : Int32)), .val (.ref t1), .val (.int (1 : Int32))] d21_23 rfl rfl rfl ?_
  refine X.iinc (pc' := 29) #[.val (.ref a1), .val (.int (2 : Int32)), .val (.int (2 : Int32)), .val (.ref t1), .val (.int (2 : Int32))] d21_26 rfl rfl rfl ?_
  refine X.goto (pc' := 8) d21_29 (by decide) (by decide) ?_
  refine X.iload (pc' := 10) d21_8 rfl rfl ?_
  refine X.iloadN (pc' := 11) d21_10 rfl rfl ?_
  refine X.icY (pc' := 32) d21_11 (by decide) (by decide) (by decide) ?_
  refine X.aloadN (pc' := 33) d21_32 rfl rfl rfl ?_
  exact X.retAN rfl rfl d21_33 (by decide) (by decide) ⟨_, rfl, t1, ka_t1, rfl, le_t1, V_t1⟩
set_option maxRecDepth 65536 in
set_option maxHeartbeats 40000000 in
theorem ef_rmC5_2 (m : MethodId) (a1 : Addr) (a2 : Addr) : entryFrame m #[(.ref a1), (.int (0 : Int32)), (.ref a2), (.int (0 : Int32)), (.int (2 : Int32))] 7 = mkF m 0 #[.val (.ref a1), .val (.int (0 : Int32)), .val (.ref a2), .val (.int (0 : Int32)), .val (.int (2 : Int32)), .unset, .unset] [] := by first | (simp [entryFrame, mkF, argsToLocals, Value.category]; done) | (rfl)
set_option maxRecDepth 65536 in
set_option maxHeartbeats 40000000 in
theorem rmC5_2 (l : Launch) (Z : State) (a0 : Array Value) (hw : ∀ d ∈ tables_1, d.before a0 Z = true) (a1 : Addr) (a2 : Addr) (h0 : Heap) (O : Ext Z.heap h0) (c0 c1 : Int32) (ka : ClassId) (V_a1 : Arv Z h0 a1 ka .char (2 : Int32) [(.int c0), (.int c1)] (.int 0)) (hbig : (255 : Int32) < c0 ∨ (255 : Int32) < c1) (k2 : ClassId) (V_a2 : Arv Z h0 a2 k2 .byte (2 : Int32) [(.int 0), (.int 0)] (.int 0)) (ne12 : a1 ≠ a2) (za : Z.heap.size ≤ a2) :
    MN l Z (⟨"java/lang/StringUTF16", "compress", "([CI[BII)I"⟩ : MethodName) jdk_52_method_21_code 7 (some .int) [] ({ frames := 0, cells := 0, slots := 0, locals := 0 } : Room) #[(.ref a1), (.int (0 : Int32)), (.ref a2), (.int (0 : Int32)), (.int (2 : Int32))] h0 [a2] (RV (fun w h => ∃ i : Int32, w = .int i ∧ ((i = 0 ∧ (255 : Int32) < c0) ∨ (i = 1 ∧ (255 : Int32) < c1)))) := by
  refine MN.mk (a0 := a0) rfl rfl (plainFor_of_name pn1) O (fun m => ef_rmC5_2 m a1 a2) ?_
  intro pg ev s m below meth cd T hh X
  subst hh
  refine X.iconst (pc' := 1) (0 : Int32) d17_0 rfl rfl ?_
  refine X.istore (pc' := 3) #[.val (.ref a1), .val (.int (0 : Int32)), .val (.ref a2), .val (.int (0 : Int32)), .val (.int (2 : Int32)), .val (.int (0 : Int32)), .unset] d17_1 rfl rfl ?_
  refine X.iload (pc' := 5) d17_3 rfl rfl ?_
  refine X.iload (pc' := 7) d17_5 rfl rfl ?_
  refine X.icN (pc' := 10) d17_7 (by decide) rfl ?_
  refine X.aloadN (pc' := 11) d17_10 rfl rfl rfl ?_
  refine X.iloadN (pc' := 12) d17_11 rfl rfl ?_
  refine X.caload (pc' := 13) (v := c0) V_a1 ⟨by decide, by decide⟩ rfl d17_12 rfl ?_
  refine X.istore (pc' := 15) #[.val (.ref a1), .val (.int (0 : Int32)), .val (.ref a2), .val (.int (0 : Int32)), .val (.int (2 : Int32)), .val (.int (0 : Int32)), .val (.int c0)] d17_13 rfl rfl ?_
  refine X.iload (pc' := 17) d17_15 rfl rfl ?_
  refine X.sipush (pc' := 20) (255 : Int32) d17_17 rfl rfl ?_
  by_cases g0 : (255 : Int32) < c0
  · refine X.icN (pc' := 23) d17_20 ((tlt g0).2.2.2) rfl ?_
    refine X.iload (pc' := 25) d17_23 rfl rfl ?_
    exact X.retIN (by simp) rfl d17_25 (by decide) (by decide) ⟨_, rfl, 0, rfl, Or.inl ⟨rfl, g0⟩⟩
  · refine X.icY (pc' := 26) d17_20 ((flt g0).2.2.2) (by decide) (by decide) ?_
    refine X.aloadN (pc' := 27) d17_26 rfl rfl rfl ?_
    refine X.iloadN (pc' := 28) d17_27 rfl rfl ?_
    refine X.iload (pc' := 30) d17_28 rfl rfl ?_
    refine X.i2b (pc' := 31) d17_30 rfl ?_
    refine X.bastore (pc' := 32) V_a2 ⟨by decide, by decide⟩ 0 rfl (leB rfl) safeE za (Or.inl (List.mem_of_getElem? (i := 0) rfl)) d17_31 rfl ?_
    intro T h L X W V1
    replace V_a1 := V_a1.other W ne12
    have V_a2 := V1
    refine X.iinc (pc' := 35) #[.val (.ref a1), .val (.int (1 : Int32)), .val (.ref a2), .val (.int (0 : Int32)), .val (.int (2 : Int32)), .val (.int (0 : Int32)), .val (.int c0)] d17_32 rfl rfl rfl ?_
    refine X.iinc (pc' := 38) #[.val (.ref a1), .val (.int (1 : Int32)), .val (.ref a2), .val (.int (1 : Int32)), .val (.int (2 : Int32)), .val (.int (0 : Int32)), .val (.int c0)] d17_35 rfl rfl rfl ?_
    refine X.iinc (pc' := 41) #[.val (.ref a1), .val (.int (1 : Int32)), .val (.ref a2), .val (.int (1 : Int32)), .val (.int (2 : Int32)), .val (.int (1 : Int32)), .val (.int c0)] d17_38 rfl rfl rfl ?_
    refine X.goto (pc' := 3) d17_41 (by decide) (by decide) ?_
    refine X.iload (pc' := 5) d17_3 rfl rfl ?_
    refine X.iload (pc' := 7) d17_5 rfl rfl ?_
    refine X.icN (pc' := 10) d17_7 (by decide) rfl ?_
    refine X.aloadN (pc' := 11) d17_10 rfl rfl rfl ?_
    refine X.iloadN (pc' := 12) d17_11 rfl rfl ?_
    refine X.caload (pc' := 13) (v := c1) V_a1 ⟨by decide, by decide⟩ rfl d17_12 rfl ?_
    refine X.istore (pc' := 15) #[.val (.ref a1), .val (.int (1 : Int32)), .val (.ref a2), .val (.int (1 : Int32)), .val (.int (2 : Int32)), .val (.int (1 : Int32)), .val (.int c1)] d17_13 rfl rfl ?_
    refine X.iload (pc' := 17) d17_15 rfl rfl ?_
    refine X.sipush (pc' := 20) (255 : Int32) d17_17 rfl rfl ?_
    by_cases g1 : (255 : Int32) < c1
    · refine X.icN (pc' := 23) d17_20 ((tlt g1).2.2.2) rfl ?_
      refine X.iload (pc' := 25) d17_23 rfl rfl ?_
      exact X.retIN (by simp) rfl d17_25 (by decide) (by decide) ⟨_, rfl, 1, rfl, Or.inr (⟨rfl, g1⟩)⟩
    · refine X.icY (pc' := 26) d17_20 ((flt g1).2.2.2) (by decide) (by decide) ?_
      refine X.aloadN (pc' := 27) d17_26 rfl rfl rfl ?_
      refine X.iloadN (pc' := 28) d17_27 rfl rfl ?_
      refine X.iload (pc' := 30) d17_28 rfl rfl ?_
      refine X.i2b (pc' := 31) d17_30 rfl ?_
      refine X.bastore (pc' := 32) V_a2 ⟨by decide, by decide⟩ 1 rfl (leB rfl) safeE za (Or.inl (List.mem_of_getElem? (i := 0) rfl)) d17_31 rfl ?_
      intro T h L X W V1
      replace V_a1 := V_a1.other W ne12
      have V_a2 := V1
      refine X.iinc (pc' := 35) #[.val (.ref a1), .val (.int (2 : Int32)), .val (.ref a2), .val (.int (1 : Int32)), .val (.int (2 : Int32)), .val (.int (1 : Int32)), .val (.int c1)] d17_32 rfl rfl rfl ?_
      refine X.iinc (pc' := 38) #[.val (.ref a1), .val (.int (2 : Int32)), .val (.ref a2), .val (.int (2 : Int32)), .val (.int (2 : Int32)), .val (.int (1 : Int32)), .val (.int c1)] d17_35 rfl rfl rfl ?_
      refine X.iinc (pc' := 41) #[.val (.ref a1), .val (.int (2 : Int32)), .val (.ref a2), .val (.int (2 : Int32)), .val (.int (2 : Int32)), .val (.int (2 : Int32)), .val (.int c1)] d17_38 rfl rfl rfl ?_
      refine X.goto (pc' := 3) d17_41 (by decide) (by decide) ?_
      refine X.iload (pc' := 5) d17_3 rfl rfl ?_
      refine X.iload (pc' := 7) d17_5 rfl rfl ?_
      exact absurd hbig (by rintro (q | q) <;> contradiction)
set_option maxRecDepth 65536 in
set_option maxHeartbeats 40000000 in
theorem ef_rmC3_2 (m : MethodId) (a1 : Addr) : entryFrame m #[(.ref a1), (.int (0 : Int32)), (.int (2 : Int32))] 6 = mkF m 0 #[.val (.ref a1), .val (.int (0 : Int32)), .val (.int (2 : Int32)), .unset, .unset, .unset] [] := by first | (simp [entryFrame, mkF, argsToLocals, Value.category]; done) | (rfl)
set_option maxRecDepth 65536 in
set_option maxHeartbeats 40000000 in
theorem rmC3_2 (l : Launch) (Z : State) (a0 : Array Value) (hw : ∀ d ∈ tables_1, d.before a0 Z = true) (a1 : Addr) (h0 : Heap) (O : Ext Z.heap h0) (SA : Sta Z Z.heap "java/lang/StringUTF16" "$assertionsDisabled" "Z" (.int 1)) (SH : Sta Z Z.heap "java/lang/StringUTF16" "HI_BYTE_SHIFT" "I" (.int 0)) (SL : Sta Z Z.heap "java/lang/StringUTF16" "LO_BYTE_SHIFT" "I" (.int 8)) (c0 c1 : Int32) (ka : ClassId) (V_a1 : Arv Z h0 a1 ka .char (2 : Int32) [(.int c0), (.int c1)] (.int 0)) (r_c0 : ¬ c0 < 0 ∧ ¬ (65535 : Int32) < c0) (r_c1 : ¬ c1 < 0 ∧ ¬ (65535 : Int32) < c1) (hbig : (255 : Int32) < c0 ∨ (255 : Int32) < c1) :
    MN l Z (⟨"java/lang/StringUTF16", "compress", "([CII)[B"⟩ : MethodName) jdk_52_method_16_code 6 (some (.array .byte)) [] ({ frames := 3, cells := 2, slots := 6, locals := 40 } : Room) #[(.ref a1), (.int (0 : Int32)), (.int (2 : Int32))] h0 [] (RV (fun w h => ∃ t ka, w = .ref t ∧ h0.size ≤ t ∧ Arv Z h t ka .byte (4 : Int32) [(.int (StrChars.lo8 c0)), (.int (StrChars.hi8 c0)), (.int (StrChars.lo8 c1)), (.int (StrChars.hi8 c1))] (.int 0))) := by
  refine MN.mk (a0 := a0) rfl rfl (plainFor_of_name pn1) O (fun m => ef_rmC3_2 m a1) ?_
  intro pg ev s m below meth cd T hh X
  subst hh
  have lt_a1 := V_a1.lt
  refine X.iloadN (pc' := 1) d16_0 rfl rfl ?_
  refine X.newP (pc' := 3) (aty := .byte) (wd23 hw) d16_1 (by decide) 2 (by decide) (by decide) (by decide) (by decide) rfl ?_
  intro T h b1 ka_b1 g_b1 Ex lt_b1 V_b1 X1
  have z_b1 : Z.heap.size ≤ b1 := by rw [g_b1]; exact X.old.1
  have s_b1 : s.heap.size ≤ b1 := by rw [g_b1]; exact X.kp.1
  have ne_a1_b1 : a1 ≠ b1 := Nat.ne_of_lt (by rw [g_b1]; exact lt_a1)
  replace V_a1 := V_a1.ext Ex
  replace lt_a1 := Nat.lt_of_lt_of_le lt_a1 Ex.1
  replace X := X1
  replace V_b1 : Arv Z h b1 ka_b1 .byte (2 : Int32) [(.int (0 : Int32)), (.int (0 : Int32))] (.int (0 : Int32)) := (Arv.pad V_b1 (pad_rep [] (.int (0 : Int32)) 2))
  refine X.astoreN (pc' := 4) #[.val (.ref a1), .val (.int (0 : Int32)), .val (.int (2 : Int32)), .val (.ref b1), .unset, .unset] d16_3 rfl rfl rfl ?_
  refine X.aloadN (pc' := 5) d16_4 rfl rfl rfl ?_
  refine X.iloadN (pc' := 6) d16_5 rfl rfl ?_
  refine X.aloadN (pc' := 7) d16_6 rfl rfl rfl ?_
  refine X.iconst (pc' := 8) (0 : Int32) d16_7 rfl rfl ?_
  refine X.iloadN (pc' := 9) d16_8 rfl rfl ?_
  refine X.callV (pc' := 12) (X.sStatic (wd78 hw) (wd79 hw) (wd76 hw) (wd80 hw) (by decide) rfl pd4 [(.ref a1), (.int (0 : Int32)), (.ref b1), (.int (0 : Int32)), (.int (2 : Int32))] rfl rfl d16_9) (rmC5_2 l Z a0 hw a1 b1 _ X.old c0 c1 _ V_a1 hbig _ V_b1 ne_a1_b1 z_b1) (wd80 hw) (wd76 hw) (leB rfl) (leB rfl) (leB rfl) (leB rfl) (sfS safeE sf0) (allS z_b1 all0) (allS (Or.inr s_b1) all0) rfl ?_
  intro T h L v X K q
  obtain ⟨i, rfl, hi⟩ := q
  replace V_a1 := V_a1.keep K (ninS ne_a1_b1 nin0)
  replace lt_a1 := Nat.lt_of_lt_of_le lt_a1 K.1
  replace lt_b1 := Nat.lt_of_lt_of_le lt_b1 K.1
  refine X.istore (pc' := 14) #[.val (.ref a1), .val (.int (0 : Int32)), .val (.int (2 : Int32)), .val (.ref b1), .val (.int i), .unset] d16_12 rfl rfl ?_
  refine X.iload (pc' := 16) d16_14 rfl rfl ?_
  refine X.iloadN (pc' := 17) d16_16 rfl rfl ?_
  have hne : ¬ i = (2 : Int32) := by rcases hi with ⟨rfl, _⟩ | ⟨rfl, _⟩ <;> decide
  refine X.icN (pc' := 20) d16_17 ((feq hne).1) rfl ?_
  refine X.aloadN (pc' := 21) d16_20 rfl rfl rfl ?_
  refine X.iloadN (pc' := 22) d16_21 rfl rfl ?_
  refine X.iloadN (pc' := 23) d16_22 rfl rfl ?_
  have X0 := X
  refine X.callV (pc' := 26) (X.sStatic (wd90 hw) (wd91 hw) (wd76 hw) (wd92 hw) (by decide) rfl pd5 [(.ref a1), (.int (0 : Int32)), (.int (2 : Int32))] rfl rfl d16_23) (rmTB2 l Z a0 hw a1 _ X.old SA SH SL c0 c1 _ V_a1) (wd92 hw) (wd76 hw) (leB rfl) (leB rfl) (leB rfl) (leB rfl) sf0 all0 all0 rfl ?_
  intro T h L v X K q
  have sz0 := X0.kp.1
  obtain ⟨t1, ka_t1, rfl, le_t1, V_t1⟩ := q
  have sz_t1 := Nat.le_trans sz0 le_t1
  replace V_a1 := V_a1.keep K nin0
  replace lt_a1 := Nat.lt_of_lt_of_le lt_a1 K.1
  replace lt_b1 := Nat.lt_of_lt_of_le lt_b1 K.1
  refine X.astore (pc' := 28) #[.val (.ref a1), .val (.int (0 : Int32)), .val (.int (2 : Int32)), .val (.ref b1), .val (.int i), .val (.ref t1)] d16_26 rfl rfl rfl ?_
  refine X.aload (pc' := 30) d16_28 rfl rfl rfl ?_
  refine X.iload (pc' := 32) d16_30 rfl rfl ?_
  rcases hi with ⟨rfl, hgt⟩ | ⟨rfl, hgt⟩
  · refine X.callP (pc' := 35) (X.sStatic (wd106 hw) (wd107 hw) (wd76 hw) (wd108 hw) (by decide) rfl pd6 [(.ref t1), (.int (0 : Int32))] rfl rfl d16_32) (rmGet l Z a0 hw t1 (0 : Int32) _ X.old SA SH SL (0 : Int32) (by decide) _ _ _ V_t1 ⟨by decide, by decide⟩ ⟨by decide, by decide⟩ c0 r_c0 rfl rfl) (wd108 hw) (wd76 hw) (leB rfl) (leB rfl) (leB rfl) (leB rfl) rfl ?_
    intro T L v X q
    subst q
    refine X.sipush (pc' := 38) (255 : Int32) d16_35 rfl rfl ?_
    refine X.icY (pc' := 54) d16_38 ((tlt hgt).2.2.1) (by decide) (by decide) ?_
    refine X.aload (pc' := 56) d16_54 rfl rfl rfl ?_
    exact X.retAN rfl rfl d16_56 (by decide) (by decide) ⟨_, rfl, t1, ka_t1, rfl, sz_t1, V_t1⟩
  · refine X.callP (pc' := 35) (X.sStatic (wd106 hw) (wd107 hw) (wd76 hw) (wd108 hw) (by decide) rfl pd6 [(.ref t1), (.int (1 : Int32))] rfl rfl d16_32) (rmGet l Z a0 hw t1 (1 : Int32) _ X.old SA SH SL (2 : Int32) (by decide) _ _ _ V_t1 ⟨by decide, by decide⟩ ⟨by decide, by decide⟩ c1 r_c1 rfl rfl) (wd108 hw) (wd76 hw) (leB rfl) (leB rfl) (leB rfl) (leB rfl) rfl ?_
    intro T L v X q
    subst q
    refine X.sipush (pc' := 38) (255 : Int32) d16_35 rfl rfl ?_
    refine X.icY (pc' := 54) d16_38 ((tlt hgt).2.2.1) (by decide) (by decide) ?_
    refine X.aload (pc' := 56) d16_54 rfl rfl rfl ?_
    exact X.retAN rfl rfl d16_56 (by decide) (by decide) ⟨_, rfl, t1, ka_t1, rfl, sz_t1, V_t1⟩
set_option maxRecDepth 65536 in
set_option maxHeartbeats 40000000 in
theorem ef_rmCFA2 (m : MethodId) (a1 : Addr) : entryFrame m #[(.ref a1), (.int (2 : Int32))] 2 = mkF m 0 #[.val (.ref a1), .val (.int (2 : Int32))] [] := by first | (simp [entryFrame, mkF, argsToLocals, Value.category]; done) | (rfl)
set_option maxRecDepth 65536 in
set_option maxHeartbeats 40000000 in
theorem rmCFA2 (l : Launch) (Z : State) (a0 : Array Value) (hw : ∀ d ∈ tables_1, d.before a0 Z = true) (a1 : Addr) (h0 : Heap) (O : Ext Z.heap h0) (ka : ClassId) (vs : List Value) (V : Arv Z h0 a1 ka .byte (4 : Int32) vs (.int 0)) :
    MN l Z (⟨"java/lang/StringUTF16", "coderFromArrayLen", "([BI)B"⟩ : MethodName) jdk_52_method_15_code 2 (some .byte) [] ({ frames := 0, cells := 0, slots := 0, locals := 0 } : Room) #[(.ref a1), (.int (2 : Int32))] h0 [] (RP h0 (fun w => w = .int 1)) := by
  refine MN.mk (a0 := a0) rfl rfl (plainFor_of_name pn1) O (fun m => ef_rmCFA2 m a1) ?_
  intro pg ev s m below meth cd T hh X
  subst hh
  refine X.iloadN (pc' := 1) d18_0 rfl rfl ?_
  refine X.aloadN (pc' := 2) d18_1 rfl rfl rfl ?_
  refine X.alen (pc' := 3) V d18_2 rfl ?_
  refine X.isub (pc' := 4) d18_3 rfl ?_
  refine X.bipush (pc' := 6) (31 : Int32) d18_4 rfl rfl ?_
  refine X.iushr (pc' := 7) d18_6 rfl ?_
  refine X.i2b (pc' := 8) d18_7 rfl ?_
  rw [show ((((((2 : Int32) - (4 : Int32)).toUInt32 >>> ((31 : Int32) &&& 31).toUInt32).toInt32).toInt8.toInt32) : Int32) = (1 : Int32) from by decide]
  exact X.retIN (by simp) rfl d18_8 (by decide) (by decide) ⟨_, rfl, rfl, rfl⟩
set_option maxRecDepth 65536 in
set_option maxHeartbeats 40000000 in
theorem ef_rmU4_2 (m : MethodId) (a1 : Addr) (a2 : Addr) : entryFrame m #[(.ref a1), (.ref a2), (.int (0 : Int32)), (.int (2 : Int32)), .null] 6 = mkF m 0 #[.val (.ref a1), .val (.ref a2), .val (.int (0 : Int32)), .val (.int (2 : Int32)), .val .null, .unset] [] := by first | (simp [entryFrame, mkF, argsToLocals, Value.category]; done) | (rfl)
set_option maxRecDepth 65536 in
set_option maxHeartbeats 40000000 in
theorem rmU4_2 (l : Launch) (Z : State) (a0 : Array Value) (hw : ∀ d ∈ tables_1, d.before a0 Z = true) (a1 : Addr) (a2 : Addr) (h0 : Heap) (O : Ext Z.heap h0) (z : Int32) (O2 : Sta Z Z.heap "java/lang/String" "COMPACT_STRINGS" "Z" (.int z)) (hz : ¬ z = 0) (SA : Sta Z Z.heap "java/lang/StringUTF16" "$assertionsDisabled" "Z" (.int 1)) (SH : Sta Z Z.heap "java/lang/StringUTF16" "HI_BYTE_SHIFT" "I" (.int 0)) (SL : Sta Z Z.heap "java/lang/StringUTF16" "LO_BYTE_SHIFT" "I" (.int 8)) (za : Z.heap.size ≤ a1) (E_a1 : Exa Z h0 a1 "java/lang/String") (F_a1_value : Fld Z h0 a1 "java/lang/String" "value" "[B" .null) (F_a1_coder : Fld Z h0 a1 "java/lang/String" "coder" "B" (.int 0)) (c0 c1 : Int32) (ka : ClassId) (V_a2 : Arv Z h0 a2 ka .char (2 : Int32) [(.int c0), (.int c1)] (.int 0)) (r_c0 : ¬ c0 < 0 ∧ ¬ (65535 : Int32) < c0) (r_c1 : ¬ c1 < 0 ∧ ¬ (65535 : Int32) < c1) (hbig : (255 : Int32) < c0 ∨ (255 : Int32) < c1) :
    MN l Z (⟨"java/lang/String", "<init>", "([CIILjava/lang/Void;)V"⟩ : MethodName) jdk_42_method_149_code 6 none [] ({ frames := 4, cells := 2, slots := 6, locals := 57 } : Room) #[(.ref a1), (.ref a2), (.int (0 : Int32)), (.int (2 : Int32)), .null] h0 [a1] (RU (fun h => Str Z h a1 [c0, c1])) := by
  refine MN.mk (a0 := a0) rfl rfl (plainFor_of_name pn0) O (fun m => ef_rmU4_2 m a1 a2) ?_
  intro pg ev s m below meth cd T hh X
  subst hh
  have lt_a1 := E_a1.lt
  refine X.aloadN (pc' := 1) d4_0 rfl rfl rfl ?_
  refine X.initO (pc' := 4) (wd19 hw) (wd20 hw) (wd21 hw) rfl d4_1 (leB rfl) (leB rfl) rfl ?_
  intro T X
  refine X.iloadN (pc' := 5) d4_4 rfl rfl ?_
  refine X.ifY (pc' := 27) d4_5 (by decide) (by decide) (by decide) ?_
  refine X.getS (pc' := 30) (wd49 hw) Via.refl O2 d4_27 rfl ?_
  intro T X
  refine X.ifN (pc' := 33) d4_30 ((if0 _ _).trans (feq hz).1) rfl ?_
  refine X.aloadN (pc' := 34) d4_33 rfl rfl rfl ?_
  refine X.iloadN (pc' := 35) d4_34 rfl rfl ?_
  refine X.iloadN (pc' := 36) d4_35 rfl rfl ?_
  refine X.callV (pc' := 39) (X.sStatic (wd74 hw) (wd75 hw) (wd76 hw) (wd77 hw) (by decide) rfl pd5 [(.ref a2), (.int (0 : Int32)), (.int (2 : Int32))] rfl rfl d4_36) (rmC3_2 l Z a0 hw a2 _ X.old SA SH SL c0 c1 _ V_a2 r_c0 r_c1 hbig) (wd77 hw) (wd76 hw) (leB rfl) (leB rfl) (leB rfl) (leB rfl) sf0 all0 all0 rfl ?_
  intro T h L v X K q
  obtain ⟨t1, ka_t1, rfl, le_t1, V_t1⟩ := q
  have ne_a1_t1 : a1 ≠ t1 := Nat.ne_of_lt (Nat.lt_of_lt_of_le lt_a1 le_t1)
  replace F_a1_value := F_a1_value.keep K nin0
  replace F_a1_coder := F_a1_coder.keep K nin0
  replace E_a1 := E_a1.keep K
  replace lt_a1 := Nat.lt_of_lt_of_le lt_a1 K.1
  refine X.astore (pc' := 41) #[.val (.ref a1), .val (.ref a2), .val (.int (0 : Int32)), .val (.int (2 : Int32)), .val .null, .val (.ref t1)] d4_39 rfl rfl rfl ?_
  refine X.aloadN (pc' := 42) d4_41 rfl rfl rfl ?_
  refine X.aload (pc' := 44) d4_42 rfl rfl rfl ?_
  refine X.iloadN (pc' := 45) d4_44 rfl rfl ?_
  refine X.callP (pc' := 48) (X.sStatic (wd81 hw) (wd82 hw) (wd76 hw) (wd83 hw) (by decide) rfl pd7 [(.ref t1), (.int (2 : Int32))] rfl rfl d4_45) (rmCFA2 l Z a0 hw t1 _ X.old _ _ V_t1) (wd83 hw) (wd76 hw) (leB rfl) (leB rfl) (leB rfl) (leB rfl) rfl ?_
  intro T L v X q
  subst q
  refine X.putF (pc' := 51) (wd29 hw) Via.refl F_a1_coder E_a1 (Or.inr ⟨(wd25 hw), rfl, rfl⟩) (wd9 hw) .byte (by decide) rfl rfl safeE za (Or.inl (List.mem_of_getElem? (i := 0) rfl)) d4_48 rfl ?_
  intro T h L X W
  replace F_a1_value := F_a1_value.other W (Or.inr (slot_ne (Or.inr (wd24 hw)) (Or.inr (wd25 hw)) (by decide) (t := (.array .byte)) (t' := .byte) (by decide) (by decide)))
  replace E_a1 := E_a1.wr W
  replace lt_a1 := Nat.lt_of_lt_of_le lt_a1 (Keep.of_wr W).1
  replace V_t1 := V_t1.other W (Ne.symm ne_a1_t1)
  replace F_a1_coder := F_a1_coder.same W
  refine X.aloadN (pc' := 52) d4_51 rfl rfl rfl ?_
  refine X.aload (pc' := 54) d4_52 rfl rfl rfl ?_
  refine X.putF (pc' := 57) (wd28 hw) Via.refl F_a1_value E_a1 (Or.inr ⟨(wd24 hw), rfl, rfl⟩) (wd9 hw) (.array .byte) (by decide) rfl rfl safeE za (Or.inl (List.mem_of_getElem? (i := 0) rfl)) d4_54 rfl ?_
  intro T h L X W
  replace F_a1_coder := F_a1_coder.other W (Or.inr (slot_ne (Or.inr (wd25 hw)) (Or.inr (wd24 hw)) (by decide) (t := .byte) (t' := (.array .byte)) (by decide) (by decide)))
  replace E_a1 := E_a1.wr W
  replace lt_a1 := Nat.lt_of_lt_of_le lt_a1 (Keep.of_wr W).1
  replace V_t1 := V_t1.other W (Ne.symm ne_a1_t1)
  replace F_a1_value := F_a1_value.same W
  have hex : ∃ c ∈ [c0, c1], (255 : Int32) < c := by
    rcases hbig with q | q
    · exact ⟨c0, by simp, q⟩
    · exact ⟨c1, by simp, q⟩
  exact X.retUN d4_57 (by decide) (by decide) ⟨rfl, t1, ka_t1, 1, (4 : Int32), _, E_a1, F_a1_value, F_a1_coder, V_t1, Or.inr ⟨rfl, rfl, rfl, hex⟩, (allC r_c0 (allC r_c1 allN)), by simp⟩
set_option maxRecDepth 65536 in
set_option maxHeartbeats 40000000 in
theorem ef_rmU1_2 (m : MethodId) (a1 : Addr) (a2 : Addr) : entryFrame m #[(.ref a1), (.ref a2)] 2 = mkF m 0 #[.val (.ref a1), .val (.ref a2)] [] := by first | (simp [entryFrame, mkF, argsToLocals, Value.category]; done) | (rfl)
set_option maxRecDepth 65536 in
set_option maxHeartbeats 40000000 in
theorem rmU1_2 (l : Launch) (Z : State) (a0 : Array Value) (hw : ∀ d ∈ tables_1, d.before a0 Z = true) (a1 : Addr) (a2 : Addr) (h0 : Heap) (O : Ext Z.heap h0) (z : Int32) (O2 : Sta Z Z.heap "java/lang/String" "COMPACT_STRINGS" "Z" (.int z)) (hz : ¬ z = 0) (SA : Sta Z Z.heap "java/lang/StringUTF16" "$assertionsDisabled" "Z" (.int 1)) (SH : Sta Z Z.heap "java/lang/StringUTF16" "HI_BYTE_SHIFT" "I" (.int 0)) (SL : Sta Z Z.heap "java/lang/StringUTF16" "LO_BYTE_SHIFT" "I" (.int 8)) (za : Z.heap.size ≤ a1) (E_a1 : Exa Z h0 a1 "java/lang/String") (F_a1_value : Fld Z h0 a1 "java/lang/String" "value" "[B" .null) (F_a1_coder : Fld Z h0 a1 "java/lang/String" "coder" "B" (.int 0)) (c0 c1 : Int32) (ka : ClassId) (V_a2 : Arv Z h0 a2 ka .char (2 : Int32) [(.int c0), (.int c1)] (.int 0)) (r_c0 : ¬ c0 < 0 ∧ ¬ (65535 : Int32) < c0) (r_c1 : ¬ c1 < 0 ∧ ¬ (65535 : Int32) < c1) (hbig : (255 : Int32) < c0 ∨ (255 : Int32) < c1) :
    MN l Z (⟨"java/lang/String", "<init>", "([C)V"⟩ : MethodName) jdk_42_method_3_code 2 none [] ({ frames := 5, cells := 2, slots := 6, locals := 74 } : Room) #[(.ref a1), (.ref a2)] h0 [a1] (RU (fun h => Str Z h a1 [c0, c1])) := by
  refine MN.mk (a0 := a0) rfl rfl (plainFor_of_name pn0) O (fun m => ef_rmU1_2 m a1 a2) ?_
  intro pg ev s m below meth cd T hh X
  subst hh
  refine X.aloadN (pc' := 1) d3_0 rfl rfl rfl ?_
  refine X.aloadN (pc' := 2) d3_1 rfl rfl rfl ?_
  refine X.iconst (pc' := 3) (0 : Int32) d3_2 rfl rfl ?_
  refine X.aloadN (pc' := 4) d3_3 rfl rfl rfl ?_
  refine X.alen (pc' := 5) V_a2 d3_4 rfl ?_
  refine X.aconstNull (pc' := 6) d3_5 rfl ?_
  refine X.callU (pc' := 9) (X.sSpecial rfl (wd15 hw) (wd16 hw) (wd18 hw) (by decide) rfl pd0 [(.ref a2), (.int (0 : Int32)), (.int (2 : Int32)), .null] rfl rfl d3_6) (rmU4_2 l Z a0 hw a1 a2 _ X.old z O2 hz SA SH SL za E_a1 F_a1_value F_a1_coder c0 c1 _ V_a2 r_c0 r_c1 hbig) (wd18 hw) (wd10 hw) (leB rfl) (leB rfl) (leB rfl) (leB rfl) (sfS safeE sf0) (allS za all0) (allS (Or.inl (List.mem_of_getElem? (i := 0) rfl)) all0) rfl ?_
  intro T h L X K q
  exact X.retUN d3_9 (by decide) (by decide) ⟨rfl, q⟩
set_option maxRecDepth 65536 in
set_option maxHeartbeats 40000000 in
theorem ef_rmNBL3 (m : MethodId)  : entryFrame m #[(.int (3 : Int32))] 1 = mkF m 0 #[.val (.int (3 : Int32))] [] := by first | (simp [entryFrame, mkF, argsToLocals, Value.category]; done) | (rfl)
set_option maxRecDepth 65536 in
set_option maxHeartbeats 40000000 in
theorem rmNBL3 (l : Launch) (Z : State) (a0 : Array Value) (hw : ∀ d ∈ tables_1, d.before a0 Z = true)  (h0 : Heap) (O : Ext Z.heap h0)  :
    MN l Z (⟨"java/lang/StringUTF16", "newBytesLength", "(I)I"⟩ : MethodName) jdk_52_method_3_code 1 (some .int) [] ({ frames := 0, cells := 0, slots := 0, locals := 0 } : Room) #[(.int (3 : Int32))] h0 [] (RP h0 (fun w => w = .int (6 : Int32))) := by
  refine MN.mk (a0 := a0) rfl rfl (plainFor_of_name pn1) O (fun m => ef_rmNBL3 m ) ?_
  intro pg ev s m below meth cd T hh X
  subst hh
  refine X.iloadN (pc' := 1) d23_0 rfl rfl ?_
  refine X.ifY (pc' := 12) d23_1 (by decide) (by decide) (by decide) ?_
  refine X.iloadN (pc' := 13) d23_12 rfl rfl ?_
  refine X.ldcI (pc' := 15) (wd99 hw) d23_13 rfl ?_
  refine X.icY (pc' := 55) d23_15 (by decide) (by decide) (by decide) ?_
  refine X.iloadN (pc' := 56) d23_55 rfl rfl ?_
  refine X.iconst (pc' := 57) (1 : Int32) d23_56 rfl rfl ?_
  refine X.ishl (pc' := 58) d23_57 rfl ?_
  rw [show (((3 : Int32) <<< ((1 : Int32) &&& 31)) : Int32) = (6 : Int32) from by decide]
  exact X.retIN (by simp) rfl d23_58 (by decide) (by decide) ⟨_, rfl, rfl, rfl⟩
set_option maxRecDepth 65536 in
set_option maxHeartbeats 40000000 in
theorem ef_rmNBF3 (m : MethodId)  : entryFrame m #[(.int (3 : Int32))] 1 = mkF m 0 #[.val (.int (3 : Int32))] [] := by first | (simp [entryFrame, mkF, argsToLocals, Value.category]; done) | (rfl)
set_option maxRecDepth 65536 in
set_option maxHeartbeats 40000000 in
theorem rmNBF3 (l : Launch) (Z : State) (a0 : Array Value) (hw : ∀ d ∈ tables_1, d.before a0 Z = true)  (h0 : Heap) (O : Ext Z.heap h0)  :
    MN l Z (⟨"java/lang/StringUTF16", "newBytesFor", "(I)[B"⟩ : MethodName) jdk_52_method_2_code 1 (some (.array .byte)) [] ({ frames := 1, cells := 1, slots := 6, locals := 12 } : Room) #[(.int (3 : Int32))] h0 [] (RV (fun w h => ∃ t ka, w = .ref t ∧ h0.size ≤ t ∧ Arv Z h t ka .byte (6 : Int32) [(.int (0 : Int32)), (.int (0 : Int32)), (.int (0 : Int32)), (.int (0 : Int32)), (.int (0 : Int32)), (.int (0 : Int32))] (.int 0))) := by
  refine MN.mk (a0 := a0) rfl rfl (plainFor_of_name pn1) O (fun m => ef_rmNBF3 m ) ?_
  intro pg ev s m below meth cd T hh X
  subst hh
  refine X.iloadN (pc' := 1) d22_0 rfl rfl ?_
  refine X.callP (pc' := 4) (X.sStatic (wd96 hw) (wd97 hw) (wd76 hw) (wd98 hw) (by decide) rfl pd1 [(.int (3 : Int32))] rfl rfl d22_1) (rmNBL3 l Z a0 hw _ X.old) (wd98 hw) (wd76 hw) (leB rfl) (leB rfl) (leB rfl) (leB rfl) rfl ?_
  intro T L v X q
  subst q
  refine X.newP (pc' := 6) (aty := .byte) (wd23 hw) d22_4 (by decide) 6 (by decide) (by decide) (by decide) (by decide) rfl ?_
  intro T h b1 ka_b1 g_b1 Ex lt_b1 V_b1 X1
  have z_b1 : Z.heap.size ≤ b1 := by rw [g_b1]; exact X.old.1
  have s_b1 : s.heap.size ≤ b1 := by rw [g_b1]; exact X.kp.1
  replace X := X1
  replace V_b1 : Arv Z h b1 ka_b1 .byte (6 : Int32) [(.int (0 : Int32)), (.int (0 : Int32)), (.int (0 : Int32)), (.int (0 : Int32)), (.int (0 : Int32)), (.int (0 : Int32))] (.int (0 : Int32)) := (Arv.pad V_b1 (pad_rep [] (.int (0 : Int32)) 6))
  exact X.retAN rfl rfl d22_6 (by decide) (by decide) ⟨_, rfl, b1, ka_b1, rfl, s_b1, V_b1⟩
set_option maxRecDepth 65536 in
set_option maxHeartbeats 40000000 in
theorem ef_rmTB3 (m : MethodId) (a1 : Addr) : entryFrame m #[(.ref a1), (.int (0 : Int32)), (.int (3 : Int32))] 5 = mkF m 0 #[.val (.ref a1), .val (.int (0 : Int32)), .val (.int (3 : Int32)), .unset, .unset] [] := by first | (simp [entryFrame, mkF, argsToLocals, Value.category]; done) | (rfl)
set_option maxRecDepth 65536 in
set_option maxHeartbeats 40000000 in
theorem rmTB3 (l : Launch) (Z : State) (a0 : Array Value) (hw : ∀ d ∈ tables_1, d.before a0 Z = true) (a1 : Addr) (h0 : Heap) (O : Ext Z.heap h0) (SA : Sta Z Z.heap "java/lang/StringUTF16" "$assertionsDisabled" "Z" (.int 1)) (SH : Sta Z Z.heap "java/lang/StringUTF16" "HI_BYTE_SHIFT" "I" (.int 0)) (SL : Sta Z Z.heap "java/lang/StringUTF16" "LO_BYTE_SHIFT" "I" (.int 8)) (c0 c1 c2 : Int32) (ka : ClassId) (V_a1 : Arv Z h0 a1 ka .char (3 : Int32) [(.int c0), (.int c1), (.int c2)] (.int 0)) :
    MN l Z (⟨"java/lang/StringUTF16", "toBytes", "([CII)[B"⟩ : MethodName) jdk_52_method_14_code 5 (some (.array .byte)) [] ({ frames := 2, cells := 1, slots := 6, locals := 24 } : Room) #[(.ref a1), (.int (0 : Int32)), (.int (3 : Int32))] h0 [] (RV (fun w h => ∃ t ka, w = .ref t ∧ h0.size ≤ t ∧ Arv Z h t ka .byte (6 : Int32) [(.int (StrChars.lo8 c0)), (.int (StrChars.hi8 c0)), (.int (StrChars.lo8 c1)), (.int (StrChars.hi8 c1)), (.int (StrChars.lo8 c2)), (.int (StrChars.hi8 c2))] (.int 0))) := by
  refine MN.mk (a0 := a0) rfl rfl (plainFor_of_name pn1) O (fun m => ef_rmTB3 m a1) ?_
  intro pg ev s m below meth cd T hh X
  subst hh
  have lt_a1 := V_a1.lt
  refine X.iloadN (pc' := 1) d21_0 rfl rfl ?_
  refine X.callV (pc' := 4) (X.sStatic (wd93 hw) (wd94 hw) (wd76 hw) (wd95 hw) (by decide) rfl pd2 [(.int (3 : Int32))] rfl rfl d21_1) (rmNBF3 l Z a0 hw _ X.old) (wd95 hw) (wd76 hw) (leB rfl) (leB rfl) (leB rfl) (leB rfl) sf0 all0 all0 rfl ?_
  intro T h L v X K q
  obtain ⟨t1, ka_t1, rfl, le_t1, V_t1⟩ := q
  have ne_a1_t1 : a1 ≠ t1 := Nat.ne_of_lt (Nat.lt_of_lt_of_le lt_a1 le_t1)
  have z_t1 := Nat.le_trans O.1 le_t1
  replace V_a1 := V_a1.keep K nin0
  replace lt_a1 := Nat.lt_of_lt_of_le lt_a1 K.1
  refine X.astoreN (pc' := 5) #[.val (.ref a1), .val (.int (0 : Int32)), .val (.int (3 : Int32)), .val (.ref t1), .unset] d21_4 rfl rfl rfl ?_
  refine X.iconst (pc' := 6) (0 : Int32) d21_5 rfl rfl ?_
  refine X.istore (pc' := 8) #[.val (.ref a1), .val (.int (0 : Int32)), .val (.int (3 : Int32)), .val (.ref t1), .val (.int (0 : Int32))] d21_6 rfl rfl ?_
  refine X.iload (pc' := 10) d21_8 rfl rfl ?_
  refine X.iloadN (pc' := 11) d21_10 rfl rfl ?_
  refine X.icN (pc' := 14) d21_11 (by decide) rfl ?_
  refine X.aloadN (pc' := 15) d21_14 rfl rfl rfl ?_
  refine X.iload (pc' := 17) d21_15 rfl rfl ?_
  refine X.aloadN (pc' := 18) d21_17 rfl rfl rfl ?_
  refine X.iloadN (pc' := 19) d21_18 rfl rfl ?_
  refine X.caload (pc' := 20) (v := c0) V_a1 ⟨by decide, by decide⟩ rfl d21_19 rfl ?_
  refine X.callU (pc' := 23) (X.sStatic (wd100 hw) (wd101 hw) (wd76 hw) (wd102 hw) (by decide) rfl pd3 [(.ref t1), (.int (0 : Int32)), (.int c0)] rfl rfl d21_20) (rmPut l Z a0 hw t1 (0 : Int32) c0 _ X.old SA SH SL (0 : Int32) (by decide) _ _ _ V_t1 ⟨by decide, by decide⟩ ⟨by decide, by decide⟩ 0 rfl rfl (leB rfl) z_t1) (wd102 hw) (wd76 hw) (leB rfl) (leB rfl) (leB rfl) (leB rfl) (sfS safeE sf0) (allS z_t1 all0) (allS (Or.inr le_t1) all0) rfl ?_
  intro T h L X K V1
  replace V_a1 := V_a1.keep K (ninS ne_a1_t1 nin0)
  replace lt_a1 := Nat.lt_of_lt_of_le lt_a1 K.1
  have V_t1 : Arv Z h t1 ka_t1 .byte (6 : Int32) [(.int (StrChars.lo8 c0)), (.int (StrChars.hi8 c0)), (.int (0 : Int32)), (.int (0 : Int32)), (.int (0 : Int32)), (.int (0 : Int32))] (.int 0) := V1
  refine X.iinc (pc' := 26) #[.val (.ref a1), .val (.int (1 : Int32)), .val (.int (3 : Int32)), .val (.ref t1), .val (.int (0 : Int32))] d21_23 rfl rfl rfl ?_
  refine X.iinc (pc' := 29) #[.val (.ref a1), .val (.int (1 : Int32)), .val (.int (3 : Int32)), .val (.ref t1), .val (.int (1 : Int32))] d21_26 rfl rfl rfl ?_
  refine X.goto (pc' := 8) d21_29 (by decide) (by decide) ?_
  refine X.iload (pc' := 10) d21_8 rfl rfl ?_
  refine X.iloadN (pc' := 11) d21_10 rfl rfl ?_
  refine X.icN (pc' := 14) d21_11 (by decide) rfl ?_
  refine X.aloadN (pc' := 15) d21_14 rfl rfl rfl ?_
  refine X.iload (pc' := 17) d21_15 rfl rfl ?_
  refine X.aloadN (pc' := 18) d21_17 rfl rfl rfl ?_
  refine X.iloadN (pc' := 19) d21_18 rfl rfl ?_
  refine X.caload (pc' := 20) (v := c1) V_a1 ⟨by decide, by decide⟩ rfl d21_19 rfl ?_
  refine X.callU (pc' := 23) (X.sStatic (wd100 hw) (wd101 hw) (wd76 hw) (wd102 hw) (by decide) rfl pd3 [(.ref t1), (.int (1 : Int32)), (.int c1)] rfl rfl d21_20) (rmPut l Z a0 hw t1 (1 : Int32) c1 _ X.old SA SH SL (2 : Int32) (by decide) _ _ _ V_t1 ⟨by decide, by decide⟩ ⟨by decide, by decide⟩ 2 rfl rfl (leB rfl) z_t1) (wd102 hw) (wd76 hw) (leB rfl) (leB rfl) (leB rfl) (leB rfl) (sfS safeE sf0) (allS z_t1 all0) (allS (Or.inr le_t1) all0) rfl ?_
  intro T h L X K V1
  replace V_a1 := V_a1.keep K (ninS ne_a1_t1 nin0)
  replace lt_a1 := Nat.lt_of_lt_of_le lt_a1 K.1
  have V_t1 : Arv Z h t1 ka_t1 .byte (6 : Int32) [(.int (StrChars.lo8 c0)), (.int (StrChars.hi8 c0)), (.int (StrChars.lo8 c1)), (.int (StrChars.hi8 c1)), (.int (0 : Int32)), (.int (0 : Int32))] (.int 0) := V1
  refine X.iinc (pc' := 26) #[.val (.ref a1), .val (.int (2 : Int32)), .val (.int (3 : Int32)), .val (.ref t1), .val (.int (1 : Int32))] d21_23 rfl rfl rfl ?_
  refine X.iinc (pc' := 29) #[.val (.ref a1), .val (.int (2 : Int32)), .val (.int (3 : Int32)), .val (.ref t1), .val (.int (2 : Int32))] d21_26 rfl rfl rfl ?_
  refine X.goto (pc' := 8) d21_29 (by decide) (by decide) ?_
  refine X.iload (pc' := 10) d21_8 rfl rfl ?_
  refine X.iloadN (pc' := 11) d21_10 rfl rfl ?_
  refine X.icN (pc' := 14) d21_11 (by decide) rfl ?_
  refine X.aloadN (pc' := 15) d21_14 rfl rfl rfl ?_
  refine X.iload (pc' := 17) d21_15 rfl rfl ?_
  refine X.aloadN (pc' := 18) d21_17 rfl rfl rfl ?_
  refine X.iloadN (pc' := 19) d21_18 rfl rfl ?_
  refine X.caload (pc' := 20) (v := c2) V_a1 ⟨by decide, by decide⟩ rfl d21_19 rfl ?_
  refine X.callU (pc' := 23) (X.sStatic (wd100 hw) (wd101 hw) (wd76 hw) (wd102 hw) (by decide) rfl pd3 [(.ref t1), (.int (2 : Int32)), (.int c2)] rfl rfl d21_20) (rmPut l Z a0 hw t1 (2 : Int32) c2 _ X.old SA SH SL (4 : Int32) (by decide) _ _ _ V_t1 ⟨by decide, by decide⟩ ⟨by decide, by decide⟩ 4 rfl rfl (leB rfl) z_t1) (wd102 hw) (wd76 hw) (leB rfl) (leB rfl) (leB rfl) (leB rfl) (sfS safeE sf0) (allS z_t1 all0) (allS (Or.inr le_t1) all0) rfl ?_
  intro T h L X K V1
  replace V_a1 := V_a1.keep K (ninS ne_a1_t1 nin0)
  replace lt_a1 := Nat.lt_of_lt_of_le lt_a1 K.1
  have V_t1 : Arv Z h t1 ka_t1 .byte (6 : Int32) [(.int (StrChars.lo8 c0)), (.int (StrChars.hi8 c0)), (.int (StrChars.lo8 c1)), (.int (StrChars.hi8 c1)), (.int (StrChars.lo8 c2)), (.int (StrChars.hi8 c2))] (.int 0) := V1
  refine X.iinc (pc' := 26) #[.val (.ref a1), .val (.int (3 : Int32)), .val (.int (3 : Int32)), .val (.ref t1), .val (.int (2 : Int32))] d21_23 rfl rfl rfl ?_
  refine X.iinc (pc' := 29) #[.val (.ref a1), .val (.int (3 : Int32)), .val (.int (3 : Int32)), .val (.ref t1), .val (.int (3 : Int32))] d21_26 rfl rfl rfl ?_
  refine X.goto (pc' := 8) d21_29 (by decide) (by decide) ?_
  refine X.iload (pc' := 10) d21_8 rfl rfl ?_
  refine X.iloadN (pc' := 11) d21_10 rfl rfl ?_
  refine X.icY (pc' := 32) d21_11 (by decide) (by decide) (by decide) ?_
  refine X.aloadN (pc' := 33) d21_32 rfl rfl rfl ?_
  exact X.retAN rfl rfl d21_33 (by decide) (by decide) ⟨_, rfl, t1, ka_t1, rfl, le_t1, V_t1⟩
set_option maxRecDepth 65536 in
set_option maxHeartbeats 40000000 in
theorem ef_rmC5_3 (m : MethodId) (a1 : Addr) (a2 : Addr) : entryFrame m #[(.ref a1), (.int (0 : Int32)), (.ref a2), (.int (0 : Int32)), (.int (3 : Int32))] 7 = mkF m 0 #[.val (.ref a1), .val (.int (0 : Int32)), .val (.ref a2), .val (.int (0 : Int32)), .val (.int (3 : Int32)), .unset, .unset] [] := by first | (simp [entryFrame, mkF, argsToLocals, Value.category]; done) | (rfl)
set_option maxRecDepth 65536 in
set_option maxHeartbeats 40000000 in
theorem rmC5_3 (l : Launch) (Z : State) (a0 : Array Value) (hw : ∀ d ∈ tables_1, d.before a0 Z = true) (a1 : Addr) (a2 : Addr) (h0 : Heap) (O : Ext Z.heap h0) (c0 c1 c2 : Int32) (ka : ClassId) (V_a1 : Arv Z h0 a1 ka .char (3 : Int32) [(.int c0), (.int c1), (.int c2)] (.int 0)) (hbig : (255 : Int32) < c0 ∨ (255 : Int32) < c1 ∨ (255 : Int32) < c2) (k2 : ClassId) (V_a2 : Arv Z h0 a2 k2 .byte (3 : Int32) [(.int 0), (.int 0), (.int 0)] (.int 0)) (ne12 : a1 ≠ a2) (za : Z.heap.size ≤ a2) :
    MN l Z (⟨"java/lang/StringUTF16", "compress", "([CI[BII)I"⟩ : MethodName) jdk_52_method_21_code 7 (some .int) [] ({ frames := 0, cells := 0, slots := 0, locals := 0 } : Room) #[(.ref a1), (.int (0 : Int32)), (.ref a2), (.int (0 : Int32)), (.int (3 : Int32))] h0 [a2] (RV (fun w h => ∃ i : Int32, w = .int i ∧ ((i = 0 ∧ (255 : Int32) < c0) ∨ (i = 1 ∧ (255 : Int32) < c1) ∨ (i = 2 ∧ (255 : Int32) < c2)))) := by
  refine MN.mk (a0 := a0) rfl rfl (plainFor_of_name pn1) O (fun m => ef_rmC5_3 m a1 a2) ?_
  intro pg ev s m below meth cd T hh X
  subst hh
  refine X.iconst (pc' := 1) (0 : Int32) d17_0 rfl rfl ?_
  refine X.istore (pc' := 3) #[.val (.ref a1), .val (.int (0 : Int32)), .val (.ref a2), .val (.int (0 : Int32)), .val (.int (3 : Int32)), .val (.int (0 : Int32)), .unset] d17_1 rfl rfl ?_
  refine X.iload (pc' := 5) d17_3 rfl rfl ?_
  refine X.iload (pc' := 7) d17_5 rfl rfl ?_
  refine X.icN (pc' := 10) d17_7 (by decide) rfl ?_
  refine X.aloadN (pc' := 11) d17_10 rfl rfl rfl ?_
  refine X.iloadN (pc' := 12) d17_11 rfl rfl ?_
  refine X.caload (pc' := 13) (v := c0) V_a1 ⟨by decide, by decide⟩ rfl d17_12 rfl ?_
  refine X.istore (pc' := 15) #[.val (.ref a1), .val (.int (0 : Int32)), .val (.ref a2), .val (.int (0 : Int32)), .val (.int (3 : Int32)), .val (.int (0 : Int32)), .val (.int c0)] d17_13 rfl rfl ?_
  refine X.iload (pc' := 17) d17_15 rfl rfl ?_
  refine X.sipush (pc' := 20) (255 : Int32) d17_17 rfl rfl ?_
  by_cases g0 : (255 : Int32) < c0
  · refine X.icN (pc' := 23) d17_20 ((tlt g0).2.2.2) rfl ?_
    refine X.iload (pc' := 25) d17_23 rfl rfl ?_
    exact X.retIN (by simp) rfl d17_25 (by decide) (by decide) ⟨_, rfl, 0, rfl, Or.inl ⟨rfl, g0⟩⟩
  · refine X.icY (pc' := 26) d17_20 ((flt g0).2.2.2) (by decide) (by decide) ?_
    refine X.aloadN (pc' := 27) d17_26 rfl rfl rfl ?_
    refine X.iloadN (pc' := 28) d17_27 rfl rfl ?_
    refine X.iload (pc' := 30) d17_28 rfl rfl ?_
    refine X.i2b (pc' := 31) d17_30 rfl ?_
    refine X.bastore (pc' := 32) V_a2 ⟨by decide, by decide⟩ 0 rfl (leB rfl) safeE za (Or.inl (List.mem_of_getElem? (i := 0) rfl)) d17_31 rfl ?_
    intro T h L X W V1
    replace V_a1 := V_a1.other W ne12
    have V_a2 := V1
    refine X.iinc (pc' := 35) #[.val (.ref a1), .val (.int (1 : Int32)), .val (.ref a2), .val (.int (0 : Int32)), .val (.int (3 : Int32)), .val (.int (0 : Int32)), .val (.int c0)] d17_32 rfl rfl rfl ?_
    refine X.iinc (pc' := 38) #[.val (.ref a1), .val (.int (1 : Int32)), .val (.ref a2), .val (.int (1 : Int32)), .val (.int (3 : Int32)), .val (.int (0 : Int32)), .val (.int c0)] d17_35 rfl rfl rfl ?_
    refine X.iinc (pc' := 41) #[.val (.ref a1), .val (.int (1 : Int32)), .val (.ref a2), .val (.int (1 : Int32)), .val (.int (3 : Int32)), .val (.int (1 : Int32)), .val (.int c0)] d17_38 rfl rfl rfl ?_
    refine X.goto (pc' := 3) d17_41 (by decide) (by decide) ?_
    refine X.iload (pc' := 5) d17_3 rfl rfl ?_
    refine X.iload (pc' := 7) d17_5 rfl rfl ?_
    refine X.icN (pc' := 10) d17_7 (by decide) rfl ?_
    refine X.aloadN (pc' := 11) d17_10 rfl rfl rfl ?_
    refine X.iloadN (pc' := 12) d17_11 rfl rfl ?_
    refine X.caload (pc' := 13) (v := c1) V_a1 ⟨by decide, by decide⟩ rfl d17_12 rfl ?_
    refine X.istore (pc' := 15) #[.val (.ref a1), .val (.int (1 : Int32)), .val (.ref a2), .val (.int (1 : Int32)), .val (.int (3 : Int32)), .val (.int (1 : Int32)), .val (.int c1)] d17_13 rfl rfl ?_
    refine X.iload (pc' := 17) d17_15 rfl rfl ?_
    refine X.sipush (pc' := 20) (255 : Int32) d17_17 rfl rfl ?_
    by_cases g1 : (255 : Int32) < c1
    · refine X.icN (pc' := 23) d17_20 ((tlt g1).2.2.2) rfl ?_
      refine X.iload (pc' := 25) d17_23 rfl rfl ?_
      exact X.retIN (by simp) rfl d17_25 (by decide) (by decide) ⟨_, rfl, 1, rfl, Or.inr (Or.inl ⟨rfl, g1⟩)⟩
    · refine X.icY (pc' := 26) d17_20 ((flt g1).2.2.2) (by decide) (by decide) ?_
      refine X.aloadN (pc' := 27) d17_26 rfl rfl rfl ?_
      refine X.iloadN (pc' := 28) d17_27 rfl rfl ?_
      refine X.iload (pc' := 30) d17_28 rfl rfl ?_
      refine X.i2b (pc' := 31) d17_30 rfl ?_
      refine X.bastore (pc' := 32) V_a2 ⟨by decide, by decide⟩ 1 rfl (leB rfl) safeE za (Or.inl (List.mem_of_getElem? (i := 0) rfl)) d17_31 rfl ?_
      intro T h L X W V1
      replace V_a1 := V_a1.other W ne12
      have V_a2 := V1
      refine X.iinc (pc' := 35) #[.val (.ref a1), .val (.int (2 : Int32)), .val (.ref a2), .val (.int (1 : Int32)), .val (.int (3 : Int32)), .val (.int (1 : Int32)), .val (.int c1)] d17_32 rfl rfl rfl ?_
      refine X.iinc (pc' := 38) #[.val (.ref a1), .val (.int (2 : Int32)), .val (.ref a2), .val (.int (2 : Int32)), .val (.int (3 : Int32)), .val (.int (1 : Int32)), .val (.int c1)] d17_35 rfl rfl rfl ?_
      refine X.iinc (pc' := 41) #[.val (.ref a1), .val (.int (2 : Int32)), .val (.ref a2), .val (.int (2 : Int32)), .val (.int (3 : Int32)), .val (.int (2 : Int32)), .val (.int c1)] d17_38 rfl rfl rfl ?_
      refine X.goto (pc' := 3) d17_41 (by decide) (by decide) ?_
      refine X.iload (pc' := 5) d17_3 rfl rfl ?_
      refine X.iload (pc' := 7) d17_5 rfl rfl ?_
      refine X.icN (pc' := 10) d17_7 (by decide) rfl ?_
      refine X.aloadN (pc' := 11) d17_10 rfl rfl rfl ?_
      refine X.iloadN (pc' := 12) d17_11 rfl rfl ?_
      refine X.caload (pc' := 13) (v := c2) V_a1 ⟨by decide, by decide⟩ rfl d17_12 rfl ?_
      refine X.istore (pc' := 15) #[.val (.ref a1), .val (.int (2 : Int32)), .val (.ref a2), .val (.int (2 : Int32)), .val (.int (3 : Int32)), .val (.int (2 : Int32)), .val (.int c2)] d17_13 rfl rfl ?_
      refine X.iload (pc' := 17) d17_15 rfl rfl ?_
      refine X.sipush (pc' := 20) (255 : Int32) d17_17 rfl rfl ?_
      by_cases g2 : (255 : Int32) < c2
      · refine X.icN (pc' := 23) d17_20 ((tlt g2).2.2.2) rfl ?_
        refine X.iload (pc' := 25) d17_23 rfl rfl ?_
        exact X.retIN (by simp) rfl d17_25 (by decide) (by decide) ⟨_, rfl, 2, rfl, Or.inr (Or.inr (⟨rfl, g2⟩))⟩
      · refine X.icY (pc' := 26) d17_20 ((flt g2).2.2.2) (by decide) (by decide) ?_
        refine X.aloadN (pc' := 27) d17_26 rfl rfl rfl ?_
        refine X.iloadN (pc' := 28) d17_27 rfl rfl ?_
        refine X.iload (pc' := 30) d17_28 rfl rfl ?_
        refine X.i2b (pc' := 31) d17_30 rfl ?_
        refine X.bastore (pc' := 32) V_a2 ⟨by decide, by decide⟩ 2 rfl (leB rfl) safeE za (Or.inl (List.mem_of_getElem? (i := 0) rfl)) d17_31 rfl ?_
        intro T h L X W V1
        replace V_a1 := V_a1.other W ne12
        have V_a2 := V1
        refine X.iinc (pc' := 35) #[.val (.ref a1), .val (.int (3 : Int32)), .val (.ref a2), .val (.int (2 : Int32)), .val (.int (3 : Int32)), .val (.int (2 : Int32)), .val (.int c2)] d17_32 rfl rfl rfl ?_
        refine X.iinc (pc' := 38) #[.val (.ref a1), .val (.int (3 : Int32)), .val (.ref a2), .val (.int (3 : Int32)), .val (.int (3 : Int32)), .val (.int (2 : Int32)), .val (.int c2)] d17_35 rfl rfl rfl ?_
        refine X.iinc (pc' := 41) #[.val (.ref a1), .val (.int (3 : Int32)), .val (.ref a2), .val (.int (3 : Int32)), .val (.int (3 : Int32)), .val (.int (3 : Int32)), .val (.int c2)] d17_38 rfl rfl rfl ?_
        refine X.goto (pc' := 3) d17_41 (by decide) (by decide) ?_
        refine X.iload (pc' := 5) d17_3 rfl rfl ?_
        refine X.iload (pc' := 7) d17_5 rfl rfl ?_
        exact absurd hbig (by rintro (q | q | q) <;> contradiction)
set_option maxRecDepth 65536 in
set_option maxHeartbeats 40000000 in
theorem ef_rmC3_3 (m : MethodId) (a1 : Addr) : entryFrame m #[(.ref a1), (.int (0 : Int32)), (.int (3 : Int32))] 6 = mkF m 0 #[.val (.ref a1), .val (.int (0 : Int32)), .val (.int (3 : Int32)), .unset, .unset, .unset] [] := by first | (simp [entryFrame, mkF, argsToLocals, Value.category]; done) | (rfl)
set_option maxRecDepth 65536 in
set_option maxHeartbeats 40000000 in
theorem rmC3_3 (l : Launch) (Z : State) (a0 : Array Value) (hw : ∀ d ∈ tables_1, d.before a0 Z = true) (a1 : Addr) (h0 : Heap) (O : Ext Z.heap h0) (SA : Sta Z Z.heap "java/lang/StringUTF16" "$assertionsDisabled" "Z" (.int 1)) (SH : Sta Z Z.heap "java/lang/StringUTF16" "HI_BYTE_SHIFT" "I" (.int 0)) (SL : Sta Z Z.heap "java/lang/StringUTF16" "LO_BYTE_SHIFT" "I" (.int 8)) (c0 c1 c2 : Int32) (ka : ClassId) (V_a1 : Arv Z h0 a1 ka .char (3 : Int32) [(.int c0), (.int c1), (.int c2)] (.int 0)) (r_c0 : ¬ c0 < 0 ∧ ¬ (65535 : Int32) < c0) (r_c1 : ¬ c1 < 0 ∧ ¬ (65535 : Int32) < c1) (r_c2 : ¬ c2 < 0 ∧ ¬ (65535 : Int32) < c2) (hbig : (255 : Int32) < c0 ∨ (255 : Int32) < c1 ∨ (255 : Int32) < c2) :
    MN l Z (⟨"java/lang/StringUTF16", "compress", "([CII)[B"⟩ : MethodName) jdk_52_method_16_code 6 (some (.array .byte)) [] ({ frames := 3, cells := 2, slots := 9, locals := 40 } : Room) #[(.ref a1), (.int (0 : Int32)), (.int (3 : Int32))] h0 [] (RV (fun w h => ∃ t ka, w = .ref t ∧ h0.size ≤ t ∧ Arv Z h t ka .byte (6 : Int32) [(.int (StrChars.lo8 c0)), (.int (StrChars.hi8 c0)), (.int (StrChars.lo8 c1)), (.int (StrChars.hi8 c1)), (.int (StrChars.lo8 c2)), (.int (StrChars.hi8 c2))] (.int 0))) := by
  refine MN.mk (a0 := a0) rfl rfl (plainFor_of_name pn1) O (fun m => ef_rmC3_3 m a1) ?_
  intro pg ev s m below meth cd T hh X
  subst hh
  have lt_a1 := V_a1.lt
  refine X.iloadN (pc' := 1) d16_0 rfl rfl ?_
  refine X.newP (pc' := 3) (aty := .byte) (wd23 hw) d16_1 (by decide) 3 (by decide) (by decide) (by decide) (by decide) rfl ?_
  intro T h b1 ka_b1 g_b1 Ex lt_b1 V_b1 X1
  have z_b1 : Z.heap.size ≤ b1 := by rw [g_b1]; exact X.old.1
  have s_b1 : s.heap.size ≤ b1 := by rw [g_b1]; exact X.kp.1
  have ne_a1_b1 : a1 ≠ b1 := Nat.ne_of_lt (by rw [g_b1]; exact lt_a1)
  replace V_a1 := V_a1.ext Ex
  replace lt_a1 := Nat.lt_of_lt_of_le lt_a1 Ex.1
  replace X := X1
  replace V_b1 : Arv Z h b1 ka_b1 .byte (3 : Int32) [(.int (0 : Int32)), (.int (0 : Int32)), (.int (0 : Int32))] (.int (0 : Int32)) := (Arv.pad V_b1 (pad_rep [] (.int (0 : Int32)) 3))
  refine X.astoreN (pc' := 4) #[.val (.ref a1), .val (.int (0 : Int32)), .val (.int (3 : Int32)), .val (.ref b1), .unset, .unset] d16_3 rfl rfl rfl ?_
  refine X.aloadN (pc' := 5) d16_4 rfl rfl rfl ?_
  refine X.iloadN (pc' := 6) d16_5 rfl rfl ?_
  refine X.aloadN (pc' := 7) d16_6 rfl rfl rfl ?_
  refine X.iconst (pc' := 8) (0 : Int32) d16_7 rfl rfl ?_
  refine X.iloadN (pc' := 9) d16_8 rfl rfl ?_
  refine X.callV (pc' := 12) (X.sStatic (wd78 hw) (wd79 hw) (wd76 hw) (wd80 hw) (by decide) rfl pd4 [(.ref a1), (.int (0 : Int32)), (.ref b1), (.int (0 : Int32)), (.int (3 : Int32))] rfl rfl d16_9) (rmC5_3 l Z a0 hw a1 b1 _ X.old c0 c1 c2 _ V_a1 hbig _ V_b1 ne_a1_b1 z_b1) (wd80 hw) (wd76 hw) (leB rfl) (leB rfl) (leB rfl) (leB rfl) (sfS safeE sf0) (allS z_b1 all0) (allS (Or.inr s_b1) all0) rfl ?_
  intro T h L v X K q
  obtain ⟨i, rfl, hi⟩ := q
  replace V_a1 := V_a1.keep K (ninS ne_a1_b1 nin0)
  replace lt_a1 := Nat.lt_of_lt_of_le lt_a1 K.1
  replace lt_b1 := Nat.lt_of_lt_of_le lt_b1 K.1
  refine X.istore (pc' := 14) #[.val (.ref a1), .val (.int (0 : Int32)), .val (.int (3 : Int32)), .val (.ref b1), .val (.int i), .unset] d16_12 rfl rfl ?_
  refine X.iload (pc' := 16) d16_14 rfl rfl ?_
  refine X.iloadN (pc' := 17) d16_16 rfl rfl ?_
  have hne : ¬ i = (3 : Int32) := by rcases hi with ⟨rfl, _⟩ | ⟨rfl, _⟩ | ⟨rfl, _⟩ <;> decide
  refine X.icN (pc' := 20) d16_17 ((feq hne).1) rfl ?_
  refine X.aloadN (pc' := 21) d16_20 rfl rfl rfl ?_
  refine X.iloadN (pc' := 22) d16_21 rfl rfl ?_
  refine X.iloadN (pc' := 23) d16_22 rfl rfl ?_
  have X0 := X
  refine X.callV (pc' := 26) (X.sStatic (wd90 hw) (wd91 hw) (wd76 hw) (wd92 hw) (by decide) rfl pd5 [(.ref a1), (.int (0 : Int32)), (.int (3 : Int32))] rfl rfl d16_23) (rmTB3 l Z a0 hw a1 _ X.old SA SH SL c0 c1 c2 _ V_a1) (wd92 hw) (wd76 hw) (leB rfl) (leB rfl) (leB rfl) (leB rfl) sf0 all0 all0 rfl ?_
  intro T h L v X K q
  have sz0 := X0.kp.1
  obtain ⟨t1, ka_t1, rfl, le_t1, V_t1⟩ := q
  have sz_t1 := Nat.le_trans sz0 le_t1
  replace V_a1 := V_a1.keep K nin0
  replace lt_a1 := Nat.lt_of_lt_of_le lt_a1 K.1
  replace lt_b1 := Nat.lt_of_lt_of_le lt_b1 K.1
  refine X.astore (pc' := 28) #[.val (.ref a1), .val (.int (0 : Int32)), .val (.int (3 : Int32)), .val (.ref b1), .val (.int i), .val (.ref t1)] d16_26 rfl rfl rfl ?_
  refine X.aload (pc' := 30) d16_28 rfl rfl rfl ?_
  refine X.iload (pc' := 32) d16_30 rfl rfl ?_
  rcases hi with ⟨rfl, hgt⟩ | ⟨rfl, hgt⟩ | ⟨rfl, hgt⟩
  · refine X.callP (pc' := 35) (X.sStatic (wd106 hw) (wd107 hw) (wd76 hw) (wd108 hw) (by decide) rfl pd6 [(.ref t1), (.int (0 : Int32))] rfl rfl d16_32) (rmGet l Z a0 hw t1 (0 : Int32) _ X.old SA SH SL (0 : Int32) (by decide) _ _ _ V_t1 ⟨by decide, by decide⟩ ⟨by decide, by decide⟩ c0 r_c0 rfl rfl) (wd108 hw) (wd76 hw) (leB rfl) (leB rfl) (leB rfl) (leB rfl) rfl ?_
    intro T L v X q
    subst q
    refine X.sipush (pc' := 38) (255 : Int32) d16_35 rfl rfl ?_
    refine X.icY (pc' := 54) d16_38 ((tlt hgt).2.2.1) (by decide) (by decide) ?_
    refine X.aload (pc' := 56) d16_54 rfl rfl rfl ?_
    exact X.retAN rfl rfl d16_56 (by decide) (by decide) ⟨_, rfl, t1, ka_t1, rfl, sz_t1, V_t1⟩
  · refine X.callP (pc' := 35) (X.sStatic (wd106 hw) (wd107 hw) (wd76 hw) (wd108 hw) (by decide) rfl pd6 [(.ref t1), (.int (1 : Int32))] rfl rfl d16_32) (rmGet l Z a0 hw t1 (1 : Int32) _ X.old SA SH SL (2 : Int32) (by decide) _ _ _ V_t1 ⟨by decide, by decide⟩ ⟨by decide, by decide⟩ c1 r_c1 rfl rfl) (wd108 hw) (wd76 hw) (leB rfl) (leB rfl) (leB rfl) (leB rfl) rfl ?_
    intro T L v X q
    subst q
    refine X.sipush (pc' := 38) (255 : Int32) d16_35 rfl rfl ?_
    refine X.icY (pc' := 54) d16_38 ((tlt hgt).2.2.1) (by decide) (by decide) ?_
    refine X.aload (pc' := 56) d16_54 rfl rfl rfl ?_
    exact X.retAN rfl rfl d16_56 (by decide) (by decide) ⟨_, rfl, t1, ka_t1, rfl, sz_t1, V_t1⟩
  · refine X.callP (pc' := 35) (X.sStatic (wd106 hw) (wd107 hw) (wd76 hw) (wd108 hw) (by decide) rfl pd6 [(.ref t1), (.int (2 : Int32))] rfl rfl d16_32) (rmGet l Z a0 hw t1 (2 : Int32) _ X.old SA SH SL (4 : Int32) (by decide) _ _ _ V_t1 ⟨by decide, by decide⟩ ⟨by decide, by decide⟩ c2 r_c2 rfl rfl) (wd108 hw) (wd76 hw) (leB rfl) (leB rfl) (leB rfl) (leB rfl) rfl ?_
    intro T L v X q
    subst q
    refine X.sipush (pc' := 38) (255 : Int32) d16_35 rfl rfl ?_
    refine X.icY (pc' := 54) d16_38 ((tlt hgt).2.2.1) (by decide) (by decide) ?_
    refine X.aload (pc' := 56) d16_54 rfl rfl rfl ?_
    exact X.retAN rfl rfl d16_56 (by decide) (by decide) ⟨_, rfl, t1, ka_t1, rfl, sz_t1, V_t1⟩
set_option maxRecDepth 65536 in
set_option maxHeartbeats 40000000 in
theorem ef_rmCFA3 (m : MethodId) (a1 : Addr) : entryFrame m #[(.ref a1), (.int (3 : Int32))] 2 = mkF m 0 #[.val (.ref a1), .val (.int (3 : Int32))] [] := by first | (simp [entryFrame, mkF, argsToLocals, Value.category]; done) | (rfl)
set_option maxRecDepth 65536 in
set_option maxHeartbeats 40000000 in
theorem rmCFA3 (l : Launch) (Z : State) (a0 : Array Value) (hw : ∀ d ∈ tables_1, d.before a0 Z = true) (a1 : Addr) (h0 : Heap) (O : Ext Z.heap h0) (ka : ClassId) (vs : List Value) (V : Arv Z h0 a1 ka .byte (6 : Int32) vs (.int 0)) :
    MN l Z (⟨"java/lang/StringUTF16", "coderFromArrayLen", "([BI)B"⟩ : MethodName) jdk_52_method_15_code 2 (some .byte) [] ({ frames := 0, cells := 0, slots := 0, locals := 0 } : Room) #[(.ref a1), (.int (3 : Int32))] h0 [] (RP h0 (fun w => w = .int 1)) := by
  refine MN.mk (a0 := a0) rfl rfl (plainFor_of_name pn1) O (fun m => ef_rmCFA3 m a1) ?_
  intro pg ev s m below meth cd T hh X
  subst hh
  refine X.iloadN (pc' := 1) d18_0 rfl rfl ?_
  refine X.aloadN (pc' := 2) d18_1 rfl rfl rfl ?_
  refine X.alen (pc' := 3) V d18_2 rfl ?_
  refine X.isub (pc' := 4) d18_3 rfl ?_
  refine X.bipush (pc' := 6) (31 : Int32) d18_4 rfl rfl ?_
  refine X.iushr (pc' := 7) d18_6 rfl ?_
  refine X.i2b (pc' := 8) d18_7 rfl ?_
  rw [show ((((((3 : Int32) - (6 : Int32)).toUInt32 >>> ((31 : Int32) &&& 31).toUInt32).toInt32).toInt8.toInt32) : Int32) = (1 : Int32) from by decide]
  exact X.retIN (by simp) rfl d18_8 (by decide) (by decide) ⟨_, rfl, rfl, rfl⟩
set_option maxRecDepth 65536 in
set_option maxHeartbeats 40000000 in
theorem ef_rmU4_3 (m : MethodId) (a1 : Addr) (a2 : Addr) : entryFrame m #[(.ref a1), (.ref a2), (.int (0 : Int32)), (.int (3 : Int32)), .null] 6 = mkF m 0 #[.val (.ref a1), .val (.ref a2), .val (.int (0 : Int32)), .val (.int (3 : Int32)), .val .null, .unset] [] := by first | (simp [entryFrame, mkF, argsToLocals, Value.category]; done) | (rfl)
set_option maxRecDepth 65536 in
set_option maxHeartbeats 40000000 in
theorem rmU4_3 (l : Launch) (Z : State) (a0 : Array Value) (hw : ∀ d ∈ tables_1, d.before a0 Z = true) (a1 : Addr) (a2 : Addr) (h0 : Heap) (O : Ext Z.heap h0) (z : Int32) (O2 : Sta Z Z.heap "java/lang/String" "COMPACT_STRINGS" "Z" (.int z)) (hz : ¬ z = 0) (SA : Sta Z Z.heap "java/lang/StringUTF16" "$assertionsDisabled" "Z" (.int 1)) (SH : Sta Z Z.heap "java/lang/StringUTF16" "HI_BYTE_SHIFT" "I" (.int 0)) (SL : Sta Z Z.heap "java/lang/StringUTF16" "LO_BYTE_SHIFT" "I" (.int 8)) (za : Z.heap.size ≤ a1) (E_a1 : Exa Z h0 a1 "java/lang/String") (F_a1_value : Fld Z h0 a1 "java/lang/String" "value" "[B" .null) (F_a1_coder : Fld Z h0 a1 "java/lang/String" "coder" "B" (.int 0)) (c0 c1 c2 : Int32) (ka : ClassId) (V_a2 : Arv Z h0 a2 ka .char (3 : Int32) [(.int c0), (.int c1), (.int c2)] (.int 0)) (r_c0 : ¬ c0 < 0 ∧ ¬ (65535 : Int32) < c0) (r_c1 : ¬ c1 < 0 ∧ ¬ (65535 : Int32) < c1) (r_c2 : ¬ c2 < 0 ∧ ¬ (65535 : Int32) < c2) (hbig : (255 : Int32) < c0 ∨ (255 : Int32) < c1 ∨ (255 : Int32) < c2) :
    MN l Z (⟨"java/lang/String", "<init>", "([CIILjava/lang/Void;)V"⟩ : MethodName) jdk_42_method_149_code 6 none [] ({ frames := 4, cells := 2, slots := 9, locals := 57 } : Room) #[(.ref a1), (.ref a2), (.int (0 : Int32)), (.int (3 : Int32)), .null] h0 [a1] (RU (fun h => Str Z h a1 [c0, c1, c2])) := by
  refine MN.mk (a0 := a0) rfl rfl (plainFor_of_name pn0) O (fun m => ef_rmU4_3 m a1 a2) ?_
  intro pg ev s m below meth cd T hh X
  subst hh
  have lt_a1 := E_a1.lt
  refine X.aloadN (pc' := 1) d4_0 rfl rfl rfl ?_
  refine X.initO (pc' := 4) (wd19 hw) (wd20 hw) (wd21 hw) rfl d4_1 (leB rfl) (leB rfl) rfl ?_
  intro T X
  refine X.iloadN (pc' := 5) d4_4 rfl rfl ?_
  refine X.ifY (pc' := 27) d4_5 (by decide) (by decide) (by decide) ?_
  refine X.getS (pc' := 30) (wd49 hw) Via.refl O2 d4_27 rfl ?_
  intro T X
  refine X.ifN (pc' := 33) d4_30 ((if0 _ _).trans (feq hz).1) rfl ?_
  refine X.aloadN (pc' := 34) d4_33 rfl rfl rfl ?_
  refine X.iloadN (pc' := 35) d4_34 rfl rfl ?_
  refine X.iloadN (pc' := 36) d4_35 rfl rfl ?_
  refine X.callV (pc' := 39) (X.sStatic (wd74 hw) (wd75 hw) (wd76 hw) (wd77 hw) (by decide) rfl pd5 [(.ref a2), (.int (0 : Int32)), (.int (3 : Int32))] rfl rfl d4_36) (rmC3_3 l Z a0 hw a2 _ X.old SA SH SL c0 c1 c2 _ V_a2 r_c0 r_c1 r_c2 hbig) (wd77 hw) (wd76 hw) (leB rfl) (leB rfl) (leB rfl) (leB rfl) sf0 all0 all0 rfl ?_
  intro T h L v X K q
  obtain ⟨t1, ka_t1, rfl, le_t1, V_t1⟩ := q
  have ne_a1_t1 : a1 ≠ t1 := Nat.ne_of_lt (Nat.lt_of_lt_of_le lt_a1 le_t1)
  replace F_a1_value := F_a1_value.keep K nin0
  replace F_a1_coder := F_a1_coder.keep K nin0
  replace E_a1 := E_a1.keep K
  replace lt_a1 := Nat.lt_of_lt_of_le lt_a1 K.1
  refine X.astore (pc' := 41) #[.val (.ref a1), .val (.ref a2), .val (.int (0 : Int32)), .val (.int (3 : Int32)), .val .null, .val (.ref t1)] d4_39 rfl rfl rfl ?_
  refine X.aloadN (pc' := 42) d4_41 rfl rfl rfl ?_
  refine X.aload (pc' := 44) d4_42 rfl rfl rfl ?_
  refine X.iloadN (pc' := 45) d4_44 rfl rfl ?_
  refine X.callP (pc' := 48) (X.sStatic (wd81 hw) (wd82 hw) (wd76 hw) (wd83 hw) (by decide) rfl pd7 [(.ref t1), (.int (3 : Int32))] rfl rfl d4_45) (rmCFA3 l Z a0 hw t1 _ X.old _ _ V_t1) (wd83 hw) (wd76 hw) (leB rfl) (leB rfl) (leB rfl) (leB rfl) rfl ?_
  intro T L v X q
  subst q
  refine X.putF (pc' := 51) (wd29 hw) Via.refl F_a1_coder E_a1 (Or.inr ⟨(wd25 hw), rfl, rfl⟩) (wd9 hw) .byte (by decide) rfl rfl safeE za (Or.inl (List.mem_of_getElem? (i := 0) rfl)) d4_48 rfl ?_
  intro T h L X W
  replace F_a1_value := F_a1_value.other W (Or.inr (slot_ne (Or.inr (wd24 hw)) (Or.inr (wd25 hw)) (by decide) (t := (.array .byte)) (t' := .byte) (by decide) (by decide)))
  replace E_a1 := E_a1.wr W
  replace lt_a1 := Nat.lt_of_lt_of_le lt_a1 (Keep.of_wr W).1
  replace V_t1 := V_t1.other W (Ne.symm ne_a1_t1)
  replace F_a1_coder := F_a1_coder.same W
  refine X.aloadN (pc' := 52) d4_51 rfl rfl rfl ?_
  refine X.aload (pc' := 54) d4_52 rfl rfl rfl ?_
  refine X.putF (pc' := 57) (wd28 hw) Via.refl F_a1_value E_a1 (Or.inr ⟨(wd24 hw), rfl, rfl⟩) (wd9 hw) (.array .byte) (by decide) rfl rfl safeE za (Or.inl (List.mem_of_getElem? (i := 0) rfl)) d4_54 rfl ?_
  intro T h L X W
  replace F_a1_coder := F_a1_coder.other W (Or.inr (slot_ne (Or.inr (wd25 hw)) (Or.inr (wd24 hw)) (by decide) (t := .byte) (t' := (.array .byte)) (by decide) (by decide)))
  replace E_a1 := E_a1.wr W
  replace lt_a1 := Nat.lt_of_lt_of_le lt_a1 (Keep.of_wr W).1
  replace V_t1 := V_t1.other W (Ne.symm ne_a1_t1)
  replace F_a1_value := F_a1_value.same W
  have hex : ∃ c ∈ [c0, c1, c2], (255 : Int32) < c := by
    rcases hbig with q | q | q
    · exact ⟨c0, by simp, q⟩
    · exact ⟨c1, by simp, q⟩
    · exact ⟨c2, by simp, q⟩
  exact X.retUN d4_57 (by decide) (by decide) ⟨rfl, t1, ka_t1, 1, (6 : Int32), _, E_a1, F_a1_value, F_a1_coder, V_t1, Or.inr ⟨rfl, rfl, rfl, hex⟩, (allC r_c0 (allC r_c1 (allC r_c2 allN))), by simp⟩
set_option maxRecDepth 65536 in
set_option maxHeartbeats 40000000 in
theorem ef_rmU1_3 (m : MethodId) (a1 : Addr) (a2 : Addr) : entryFrame m #[(.ref a1), (.ref a2)] 2 = mkF m 0 #[.val (.ref a1), .val (.ref a2)] [] := by first | (simp [entryFrame, mkF, argsToLocals, Value.category]; done) | (rfl)
set_option maxRecDepth 65536 in
set_option maxHeartbeats 40000000 in
theorem rmU1_3 (l : Launch) (Z : State) (a0 : Array Value) (hw : ∀ d ∈ tables_1, d.before a0 Z = true) (a1 : Addr) (a2 : Addr) (h0 : Heap) (O : Ext Z.heap h0) (z : Int32) (O2 : Sta Z Z.heap "java/lang/String" "COMPACT_STRINGS" "Z" (.int z)) (hz : ¬ z = 0) (SA : Sta Z Z.heap "java/lang/StringUTF16" "$assertionsDisabled" "Z" (.int 1)) (SH : Sta Z Z.heap "java/lang/StringUTF16" "HI_BYTE_SHIFT" "I" (.int 0)) (SL : Sta Z Z.heap "java/lang/StringUTF16" "LO_BYTE_SHIFT" "I" (.int 8)) (za : Z.heap.size ≤ a1) (E_a1 : Exa Z h0 a1 "java/lang/String") (F_a1_value : Fld Z h0 a1 "java/lang/String" "value" "[B" .null) (F_a1_coder : Fld Z h0 a1 "java/lang/String" "coder" "B" (.int 0)) (c0 c1 c2 : Int32) (ka : ClassId) (V_a2 : Arv Z h0 a2 ka .char (3 : Int32) [(.int c0), (.int c1), (.int c2)] (.int 0)) (r_c0 : ¬ c0 < 0 ∧ ¬ (65535 : Int32) < c0) (r_c1 : ¬ c1 < 0 ∧ ¬ (65535 : Int32) < c1) (r_c2 : ¬ c2 < 0 ∧ ¬ (65535 : Int32) < c2) (hbig : (255 : Int32) < c0 ∨ (255 : Int32) < c1 ∨ (255 : Int32) < c2) :
    MN l Z (⟨"java/lang/String", "<init>", "([C)V"⟩ : MethodName) jdk_42_method_3_code 2 none [] ({ frames := 5, cells := 2, slots := 9, locals := 74 } : Room) #[(.ref a1), (.ref a2)] h0 [a1] (RU (fun h => Str Z h a1 [c0, c1, c2])) := by
  refine MN.mk (a0 := a0) rfl rfl (plainFor_of_name pn0) O (fun m => ef_rmU1_3 m a1 a2) ?_
  intro pg ev s m below meth cd T hh X
  subst hh
  refine X.aloadN (pc' := 1) d3_0 rfl rfl rfl ?_
  refine X.aloadN (pc' := 2) d3_1 rfl rfl rfl ?_
  refine X.iconst (pc' := 3) (0 : Int32) d3_2 rfl rfl ?_
  refine X.aloadN (pc' := 4) d3_3 rfl rfl rfl ?_
  refine X.alen (pc' := 5) V_a2 d3_4 rfl ?_
  refine X.aconstNull (pc' := 6) d3_5 rfl ?_
  refine X.callU (pc' := 9) (X.sSpecial rfl (wd15 hw) (wd16 hw) (wd18 hw) (by decide) rfl pd0 [(.ref a2), (.int (0 : Int32)), (.int (3 : Int32)), .null] rfl rfl d3_6) (rmU4_3 l Z a0 hw a1 a2 _ X.old z O2 hz SA SH SL za E_a1 F_a1_value F_a1_coder c0 c1 c2 _ V_a2 r_c0 r_c1 r_c2 hbig) (wd18 hw) (wd10 hw) (leB rfl) (leB rfl) (leB rfl) (leB rfl) (sfS safeE sf0) (allS za all0) (allS (Or.inl (List.mem_of_getElem? (i := 0) rfl)) all0) rfl ?_
  intro T h L X K q
  exact X.retUN d3_9 (by decide) (by decide) ⟨rfl, q⟩
set_option maxRecDepth 65536 in
set_option maxHeartbeats 40000000 in
theorem ef_rmCanI (m : MethodId) (ch : Int32) : entryFrame m #[(.int ch)] 1 = mkF m 0 #[.val (.int ch)] [] := by first | (simp [entryFrame, mkF, argsToLocals, Value.category]; done) | (rfl)
set_option maxRecDepth 65536 in
set_option maxHeartbeats 40000000 in
theorem rmCanI (l : Launch) (Z : State) (a0 : Array Value) (hw : ∀ d ∈ tables_1, d.before a0 Z = true) (ch : Int32) (h0 : Heap) (O : Ext Z.heap h0) (rch : ¬ ch < 0 ∧ ¬ (255 : Int32) < ch) :
    MN l Z (⟨"java/lang/StringLatin1", "canEncode", "(I)Z"⟩ : MethodName) jdk_43_method_4_code 1 (some .boolean) [] ({ frames := 0, cells := 0, slots := 0, locals := 0 } : Room) #[(.int ch)] h0 [] (RP h0 (fun w => w = .int 1)) := by
  refine MN.mk (a0 := a0) rfl rfl (plainFor_of_name pn2) O (fun m => ef_rmCanI m ch) ?_
  intro pg ev s m below meth cd T hh X
  subst hh
  refine X.iloadN (pc' := 1) d13_0 rfl rfl ?_
  refine X.ifN (pc' := 4) d13_1 ((if0 _ _).trans (flt rch.1).1) rfl ?_
  refine X.iloadN (pc' := 5) d13_4 rfl rfl ?_
  refine X.sipush (pc' := 8) (255 : Int32) d13_5 rfl rfl ?_
  refine X.icN (pc' := 11) d13_8 ((flt rch.2).2.2.1) rfl ?_
  refine X.iconst (pc' := 12) (1 : Int32) d13_11 rfl rfl ?_
  refine X.goto (pc' := 16) d13_12 (by decide) (by decide) ?_
  exact X.retIN (by simp) rfl d13_16 (by decide) (by decide) ⟨_, rfl, rfl, rfl⟩
set_option maxRecDepth 65536 in
set_option maxHeartbeats 40000000 in
theorem ef_rmMax (m : MethodId)  : entryFrame m #[(.int (0 : Int32)), (.int (0 : Int32))] 2 = mkF m 0 #[.val (.int (0 : Int32)), .val (.int (0 : Int32))] [] := by first | (simp [entryFrame, mkF, argsToLocals, Value.category]; done) | (rfl)
set_option maxRecDepth 65536 in
set_option maxHeartbeats 40000000 in
theorem rmMax (l : Launch) (Z : State) (a0 : Array Value) (hw : ∀ d ∈ tables_1, d.before a0 Z = true)  (h0 : Heap) (O : Ext Z.heap h0)  :
    MN l Z (⟨"java/lang/Math", "max", "(II)I"⟩ : MethodName) jdk_29_method_65_code 2 (some .int) [] ({ frames := 0, cells := 0, slots := 0, locals := 0 } : Room) #[(.int (0 : Int32)), (.int (0 : Int32))] h0 [] (RP h0 (fun w => w = .int 0)) := by
  refine MN.mk (a0 := a0) rfl rfl pf14 O (fun m => ef_rmMax m ) ?_
  intro pg ev s m below meth cd T hh X
  subst hh
  refine X.iloadN (pc' := 1) d14_0 rfl rfl ?_
  refine X.iloadN (pc' := 2) d14_1 rfl rfl ?_
  refine X.icN (pc' := 5) d14_2 (by decide) rfl ?_
  refine X.iloadN (pc' := 6) d14_5 rfl rfl ?_
  refine X.goto (pc' := 10) d14_6 (by decide) (by decide) ?_
  exact X.retIN (by simp) rfl d14_10 (by decide) (by decide) ⟨_, rfl, rfl, rfl⟩
set_option maxRecDepth 65536 in
set_option maxHeartbeats 40000000 in
theorem ef_rmMin (m : MethodId) (n : Int32) : entryFrame m #[(.int n), (.int n)] 2 = mkF m 0 #[.val (.int n), .val (.int n)] [] := by first | (simp [entryFrame, mkF, argsToLocals, Value.category]; done) | (rfl)
set_option maxRecDepth 65536 in
set_option maxHeartbeats 40000000 in
theorem rmMin (l : Launch) (Z : State) (a0 : Array Value) (hw : ∀ d ∈ tables_1, d.before a0 Z = true) (n : Int32) (h0 : Heap) (O : Ext Z.heap h0)  :
    MN l Z (⟨"java/lang/Math", "min", "(II)I"⟩ : MethodName) jdk_29_method_69_code 2 (some .int) [] ({ frames := 0, cells := 0, slots := 0, locals := 0 } : Room) #[(.int n), (.int n)] h0 [] (RP h0 (fun w => w = .int n)) := by
  refine MN.mk (a0 := a0) rfl rfl pf15 O (fun m => ef_rmMin m n) ?_
  intro pg ev s m below meth cd T hh X
  subst hh
  refine X.iloadN (pc' := 1) d15_0 rfl rfl ?_
  refine X.iloadN (pc' := 2) d15_1 rfl rfl ?_
  refine X.icN (pc' := 5) d15_2 ((flt Int32.lt_irrefl).2.2.1) rfl ?_
  refine X.iloadN (pc' := 6) d15_5 rfl rfl ?_
  refine X.goto (pc' := 10) d15_6 (by decide) (by decide) ?_
  exact X.retIN (by simp) rfl d15_10 (by decide) (by decide) ⟨_, rfl, rfl, rfl⟩
set_option maxRecDepth 65536 in
set_option maxHeartbeats 40000000 in
theorem ef_rmIsL0 (m : MethodId) (a1 : Addr) : entryFrame m #[(.ref a1)] 1 = mkF m 0 #[.val (.ref a1)] [] := by first | (simp [entryFrame, mkF, argsToLocals, Value.category]; done) | (rfl)
set_option maxRecDepth 65536 in
set_option maxHeartbeats 40000000 in
theorem rmIsL0 (l : Launch) (Z : State) (a0 : Array Value) (hw : ∀ d ∈ tables_1, d.before a0 Z = true) (a1 : Addr) (h0 : Heap) (O : Ext Z.heap h0) (z : Int32) (O2 : Sta Z Z.heap "java/lang/String" "COMPACT_STRINGS" "Z" (.int z)) (hz : ¬ z = 0) (F : Fld Z h0 a1 "java/lang/String" "coder" "B" (.int 0)) :
    MN l Z (⟨"java/lang/String", "isLatin1", "()Z"⟩ : MethodName) jdk_42_method_154_code 1 (some .boolean) [] ({ frames := 0, cells := 0, slots := 0, locals := 0 } : Room) #[(.ref a1)] h0 [] (RP h0 (fun w => w = .int 1)) := by
  refine MN.mk (a0 := a0) rfl rfl (plainFor_of_name pn0) O (fun m => ef_rmIsL0 m a1) ?_
  intro pg ev s m below meth cd T hh X
  subst hh
  refine X.getS (pc' := 3) (wd49 hw) Via.refl O2 d9_0 rfl ?_
  intro T X
  refine X.ifN (pc' := 6) d9_3 ((if0 _ _).trans (feq hz).1) rfl ?_
  refine X.aloadN (pc' := 7) d9_6 rfl rfl rfl ?_
  refine X.getF (pc' := 10) (wd29 hw) Via.refl F d9_7 rfl ?_
  intro T X
  refine X.ifN (pc' := 13) d9_10 (by decide) rfl ?_
  refine X.iconst (pc' := 14) (1 : Int32) d9_13 rfl rfl ?_
  refine X.goto (pc' := 18) d9_14 (by decide) (by decide) ?_
  exact X.retIN (by simp) rfl d9_18 (by decide) (by decide) ⟨_, rfl, rfl, rfl⟩
set_option maxRecDepth 65536 in
set_option maxHeartbeats 40000000 in
theorem ef_rmIsL1 (m : MethodId) (a1 : Addr) : entryFrame m #[(.ref a1)] 1 = mkF m 0 #[.val (.ref a1)] [] := by first | (simp [entryFrame, mkF, argsToLocals, Value.category]; done) | (rfl)
set_option maxRecDepth 65536 in
set_option maxHeartbeats 40000000 in
theorem rmIsL1 (l : Launch) (Z : State) (a0 : Array Value) (hw : ∀ d ∈ tables_1, d.before a0 Z = true) (a1 : Addr) (h0 : Heap) (O : Ext Z.heap h0) (z : Int32) (O2 : Sta Z Z.heap "java/lang/String" "COMPACT_STRINGS" "Z" (.int z)) (hz : ¬ z = 0) (F : Fld Z h0 a1 "java/lang/String" "coder" "B" (.int 1)) :
    MN l Z (⟨"java/lang/String", "isLatin1", "()Z"⟩ : MethodName) jdk_42_method_154_code 1 (some .boolean) [] ({ frames := 0, cells := 0, slots := 0, locals := 0 } : Room) #[(.ref a1)] h0 [] (RP h0 (fun w => w = .int 0)) := by
  refine MN.mk (a0 := a0) rfl rfl (plainFor_of_name pn0) O (fun m => ef_rmIsL1 m a1) ?_
  intro pg ev s m below meth cd T hh X
  subst hh
  refine X.getS (pc' := 3) (wd49 hw) Via.refl O2 d9_0 rfl ?_
  intro T X
  refine X.ifN (pc' := 6) d9_3 ((if0 _ _).trans (feq hz).1) rfl ?_
  refine X.aloadN (pc' := 7) d9_6 rfl rfl rfl ?_
  refine X.getF (pc' := 10) (wd29 hw) Via.refl F d9_7 rfl ?_
  intro T X
  refine X.ifY (pc' := 17) d9_10 (by decide) (by decide) (by decide) ?_
  refine X.iconst (pc' := 18) (0 : Int32) d9_17 rfl rfl ?_
  exact X.retIN (by simp) rfl d9_18 (by decide) (by decide) ⟨_, rfl, rfl, rfl⟩
set_option maxRecDepth 65536 in
set_option maxHeartbeats 40000000 in
theorem ef_rmCFT (m : MethodId) (n : Int32) (fm : Value) (rf : fm.isRef = true) : entryFrame m #[(.int (0 : Int32)), (.int n), (.int n), fm] 4 = mkF m 0 #[.val (.int (0 : Int32)), .val (.int n), .val (.int n), .val fm] [] := by first | (simp [entryFrame, mkF, argsToLocals, Value.category, catR rf]; done) | (rcases ref_cases rf with rfl | ⟨_, rfl⟩ <;> rfl)
set_option maxRecDepth 65536 in
set_option maxHeartbeats 40000000 in
theorem rmCFT (l : Launch) (Z : State) (a0 : Array Value) (hw : ∀ d ∈ tables_1, d.before a0 Z = true) (n : Int32) (fm : Value) (rf : fm.isRef = true) (h0 : Heap) (O : Ext Z.heap h0) (hn : ¬ n < 0) :
    MN l Z (⟨"jdk/internal/util/Preconditions", "checkFromToIndex", "(IIILjava/util/function/BiFunction;)I"⟩ : MethodName) jdk_41_method_12_code 4 (some .int) [] ({ frames := 0, cells := 0, slots := 0, locals := 0 } : Room) #[(.int (0 : Int32)), (.int n), (.int n), fm] h0 [] (RP h0 (fun w => ∃ y, w = .int y)) := by
  refine MN.mk (a0 := a0) rfl rfl (plainFor_of_name pn5) O (fun m => ef_rmCFT m n fm rf) ?_
  intro pg ev s m below meth cd T hh X
  subst hh
  refine X.iloadN (pc' := 1) d31_0 rfl rfl ?_
  refine X.ifN (pc' := 4) d31_1 (by decide) rfl ?_
  refine X.iloadN (pc' := 5) d31_4 rfl rfl ?_
  refine X.iloadN (pc' := 6) d31_5 rfl rfl ?_
  refine X.icN (pc' := 9) d31_6 ((flt hn).2.2.1) rfl ?_
  refine X.iloadN (pc' := 10) d31_9 rfl rfl ?_
  refine X.iloadN (pc' := 11) d31_10 rfl rfl ?_
  refine X.icY (pc' := 22) d31_11 ((flt Int32.lt_irrefl).2.2.2) (by decide) (by decide) ?_
  refine X.iloadN (pc' := 23) d31_22 rfl rfl ?_
  exact X.retIN (by simp) rfl d31_23 (by decide) (by decide) ⟨_, rfl, rfl, _, rfl⟩
set_option maxRecDepth 65536 in
set_option maxHeartbeats 40000000 in
theorem ef_rmCBE (m : MethodId) (n : Int32) : entryFrame m #[(.int (0 : Int32)), (.int n), (.int n)] 3 = mkF m 0 #[.val (.int (0 : Int32)), .val (.int n), .val (.int n)] [] := by first | (simp [entryFrame, mkF, argsToLocals, Value.category]; done) | (rfl)
set_option maxRecDepth 65536 in
set_option maxHeartbeats 40000000 in
theorem rmCBE (l : Launch) (Z : State) (a0 : Array Value) (hw : ∀ d ∈ tables_1, d.before a0 Z = true) (n : Int32) (h0 : Heap) (O : Ext Z.heap h0) (fm : Value) (rf : fm.isRef = true) (SF : Sta Z Z.heap "jdk/internal/util/Preconditions" "SIOOBE_FORMATTER" "Ljava/util/function/BiFunction;" fm) (hn : ¬ n < 0) :
    MN l Z (⟨"java/lang/String", "checkBoundsBeginEnd", "(III)V"⟩ : MethodName) jdk_42_method_158_code 3 none [] ({ frames := 1, cells := 0, slots := 0, locals := 20 } : Room) #[(.int (0 : Int32)), (.int n), (.int n)] h0 [] (RO h0) := by
  refine MN.mk (a0 := a0) rfl rfl (plainFor_of_name pn0) O (fun m => ef_rmCBE m n) ?_
  intro pg ev s m below meth cd T hh X
  subst hh
  refine X.iloadN (pc' := 1) d30_0 rfl rfl ?_
  refine X.iloadN (pc' := 2) d30_1 rfl rfl ?_
  refine X.iloadN (pc' := 3) d30_2 rfl rfl ?_
  refine X.getS (pc' := 6) (wd127 hw) Via.refl SF d30_3 rfl ?_
  intro T X
  refine X.callP (pc' := 9) (X.sStatic (wd129 hw) (wd130 hw) (wd128 hw) (wd131 hw) (by decide) rfl pd8 [(.int (0 : Int32)), (.int n), (.int n), fm] rfl rfl d30_6) (rmCFT l Z a0 hw n fm rf _ X.old hn) (wd131 hw) (wd128 hw) (leB rfl) (leB rfl) (leB rfl) (leB rfl) rfl ?_
  intro T L v X q
  obtain ⟨vi, rfl⟩ : ∃ y, v = .int y := q
  refine X.pop (pc' := 10) d30_9 rfl rfl ?_
  exact X.retUN d30_10 (by decide) (by decide) ⟨rfl, rfl⟩
set_option maxRecDepth 65536 in
set_option maxHeartbeats 40000000 in
theorem ef_rmLI0 (m : MethodId) (a1 : Addr) (ch : Int32) : entryFrame m #[(.ref a1), (.int ch), (.int (0 : Int32)), (.int (0 : Int32))] 4 = mkF m 0 #[.val (.ref a1), .val (.int ch), .val (.int (0 : Int32)), .val (.int (0 : Int32))] [] := by first | (simp [entryFrame, mkF, argsToLocals, Value.category]; done) | (rfl)
set_option maxRecDepth 65536 in
set_option maxHeartbeats 40000000 in
theorem rmLI0 (l : Launch) (Z : State) (a0 : Array Value) (hw : ∀ d ∈ tables_1, d.before a0 Z = true) (a1 : Addr) (ch : Int32) (h0 : Heap) (O : Ext Z.heap h0) (ka : ClassId) (V : Arv Z h0 a1 ka .byte (0 : Int32) [] (.int 0))  (rch : ¬ ch < 0 ∧ ¬ (255 : Int32) < ch) :
    MN l Z (⟨"java/lang/StringLatin1", "indexOf", "([BIII)I"⟩ : MethodName) jdk_43_method_22_code 4 (some .int) [] ({ frames := 1, cells := 0, slots := 0, locals := 20 } : Room) #[(.ref a1), (.int ch), (.int (0 : Int32)), (.int (0 : Int32))] h0 [] (RP h0 (fun w => ∃ v : Int32, w = .int v ∧ IX v ch [])) := by
  refine MN.mk (a0 := a0) rfl rfl (plainFor_of_name pn2) O (fun m => ef_rmLI0 m a1 ch) ?_
  intro pg ev s m below meth cd T hh X
  subst hh
  refine X.iloadN (pc' := 1) d12_0 rfl rfl ?_
  refine X.callP (pc' := 4) (X.sStatic (wd64 hw) (wd65 hw) (wd62 hw) (wd66 hw) (by decide) rfl pd9 [(.int ch)] rfl rfl d12_1) (rmCanI l Z a0 hw ch _ X.old rch) (wd66 hw) (wd62 hw) (leB rfl) (leB rfl) (leB rfl) (leB rfl) rfl ?_
  intro T L v X q
  subst q
  refine X.ifY (pc' := 9) d12_4 (by decide) (by decide) (by decide) ?_
  refine X.iloadN (pc' := 10) d12_9 rfl rfl ?_
  refine X.iconst (pc' := 11) (0 : Int32) d12_10 rfl rfl ?_
  refine X.callP (pc' := 14) (X.sStatic (wd67 hw) (wd68 hw) (wd69 hw) (wd70 hw) (by decide) rfl pd10 [(.int (0 : Int32)), (.int (0 : Int32))] rfl rfl d12_11) (rmMax l Z a0 hw _ X.old) (wd70 hw) (wd69 hw) (leB rfl) (leB rfl) (leB rfl) (leB rfl) rfl ?_
  intro T L v X q
  subst q
  refine X.istoreN (pc' := 15) #[.val (.ref a1), .val (.int ch), .val (.int (0 : Int32)), .val (.int (0 : Int32))] d12_14 rfl rfl ?_
  refine X.iloadN (pc' := 16) d12_15 rfl rfl ?_
  refine X.aloadN (pc' := 17) d12_16 rfl rfl rfl ?_
  refine X.alen (pc' := 18) V d12_17 rfl ?_
  refine X.callP (pc' := 21) (X.sStatic (wd71 hw) (wd72 hw) (wd69 hw) (wd73 hw) (by decide) rfl pd10 [(.int (0 : Int32)), (.int (0 : Int32))] rfl rfl d12_18) (rmMin l Z a0 hw (0 : Int32) _ X.old) (wd73 hw) (wd69 hw) (leB rfl) (leB rfl) (leB rfl) (leB rfl) rfl ?_
  intro T L v X q
  subst q
  refine X.istoreN (pc' := 22) #[.val (.ref a1), .val (.int ch), .val (.int (0 : Int32)), .val (.int (0 : Int32))] d12_21 rfl rfl ?_
  refine X.iloadN (pc' := 23) d12_22 rfl rfl ?_
  refine X.iloadN (pc' := 24) d12_23 rfl rfl ?_
  refine X.icN (pc' := 27) d12_24 (by decide) rfl ?_
  refine X.iconst (pc' := 28) (-1 : Int32) d12_27 rfl rfl ?_
  exact X.retIN (by simp) rfl d12_28 (by decide) (by decide) ⟨_, rfl, rfl, _, rfl, Or.inl ⟨by decide, by simp⟩⟩
set_option maxRecDepth 65536 in
set_option maxHeartbeats 40000000 in
theorem ef_rmLC1 (m : MethodId) (a1 : Addr) (ch : Int32) : entryFrame m #[(.ref a1), (.int ch), (.int (0 : Int32)), (.int (1 : Int32))] 6 = mkF m 0 #[.val (.ref a1), .val (.int ch), .val (.int (0 : Int32)), .val (.int (1 : Int32)), .unset, .unset] [] := by first | (simp [entryFrame, mkF, argsToLocals, Value.category]; done) | (rfl)
set_option maxRecDepth 65536 in
set_option maxHeartbeats 40000000 in
theorem rmLC1 (l : Launch) (Z : State) (a0 : Array Value) (hw : ∀ d ∈ tables_1, d.before a0 Z = true) (a1 : Addr) (ch : Int32) (h0 : Heap) (O : Ext Z.heap h0) (c0 : Int32) (ka : ClassId) (V : Arv Z h0 a1 ka .byte (1 : Int32) [(.int (StrChars.lo8 c0))] (.int 0)) (r_c0 : ¬ c0 < 0 ∧ ¬ (255 : Int32) < c0) (rch : ¬ ch < 0 ∧ ¬ (255 : Int32) < ch) :
    MN l Z (⟨"java/lang/StringLatin1", "indexOfChar", "([BIII)I"⟩ : MethodName) jdk_43_method_23_code 6 (some .int) [] ({ frames := 0, cells := 0, slots := 0, locals := 0 } : Room) #[(.ref a1), (.int ch), (.int (0 : Int32)), (.int (1 : Int32))] h0 [] (RP h0 (fun w => ∃ v : Int32, w = .int v ∧ IX v ch [c0])) := by
  refine MN.mk (a0 := a0) rfl rfl (plainFor_of_name pn2) O (fun m => ef_rmLC1 m a1 ch) ?_
  intro pg ev s m below meth cd T hh X
  subst hh
  refine X.iloadN (pc' := 1) d20_0 rfl rfl ?_
  refine X.i2b (pc' := 2) d20_1 rfl ?_
  show Y.Ends _ _ _ _ (State.setTop _ (mkF _ 2 #[.val (.ref a1), .val (.int ch), .val (.int (0 : Int32)), .val (.int (1 : Int32)), .unset, .unset] [(.int (StrChars.lo8 ch))]))
  refine X.istore (pc' := 4) #[.val (.ref a1), .val (.int ch), .val (.int (0 : Int32)), .val (.int (1 : Int32)), .val (.int (StrChars.lo8 ch)), .unset] d20_2 rfl rfl ?_
  refine X.iloadN (pc' := 5) d20_4 rfl rfl ?_
  refine X.istore (pc' := 7) #[.val (.ref a1), .val (.int ch), .val (.int (0 : Int32)), .val (.int (1 : Int32)), .val (.int (StrChars.lo8 ch)), .val (.int (0 : Int32))] d20_5 rfl rfl ?_
  refine X.iload (pc' := 9) d20_7 rfl rfl ?_
  refine X.iloadN (pc' := 10) d20_9 rfl rfl ?_
  refine X.icN (pc' := 13) d20_10 (by decide) rfl ?_
  refine X.aloadN (pc' := 14) d20_13 rfl rfl rfl ?_
  refine X.iload (pc' := 16) d20_14 rfl rfl ?_
  refine X.baload (pc' := 17) (v := StrChars.lo8 c0) V ⟨by decide, by decide⟩ rfl d20_16 rfl ?_
  refine X.iload (pc' := 19) d20_17 rfl rfl ?_
  by_cases e0 : c0 = ch
  · refine X.icN (pc' := 22) d20_19 ((teq (congrArg StrChars.lo8 e0)).2) rfl ?_
    refine X.iload (pc' := 24) d20_22 rfl rfl ?_
    exact X.retIN (by simp) rfl d20_24 (by decide) (by decide) ⟨_, rfl, rfl, _, rfl, Or.inr ⟨by decide, by rw [← e0]; simp⟩⟩
  · refine X.icY (pc' := 25) d20_19 ((feq (lo8_ne r_c0 rch e0)).2) (by decide) (by decide) ?_
    refine X.iinc (pc' := 28) #[.val (.ref a1), .val (.int ch), .val (.int (0 : Int32)), .val (.int (1 : Int32)), .val (.int (StrChars.lo8 ch)), .val (.int (1 : Int32))] d20_25 rfl rfl rfl ?_
    refine X.goto (pc' := 7) d20_28 (by decide) (by decide) ?_
    refine X.iload (pc' := 9) d20_7 rfl rfl ?_
    refine X.iloadN (pc' := 10) d20_9 rfl rfl ?_
    refine X.icY (pc' := 31) d20_10 (by decide) (by decide) (by decide) ?_
    refine X.iconst (pc' := 32) (-1 : Int32) d20_31 rfl rfl ?_
    exact X.retIN (by simp) rfl d20_32 (by decide) (by decide) ⟨_, rfl, rfl, _, rfl, Or.inl ⟨by decide, by simp; exact fun q => e0 q.symm⟩⟩
set_option maxRecDepth 65536 in
set_option maxHeartbeats 40000000 in
theorem ef_rmLI1 (m : MethodId) (a1 : Addr) (ch : Int32) : entryFrame m #[(.ref a1), (.int ch), (.int (0 : Int32)), (.int (1 : Int32))] 4 = mkF m 0 #[.val (.ref a1), .val (.int ch), .val (.int (0 : Int32)), .val (.int (1 : Int32))] [] := by first | (simp [entryFrame, mkF, argsToLocals, Value.category]; done) | (rfl)
set_option maxRecDepth 65536 in
set_option maxHeartbeats 40000000 in
theorem rmLI1 (l : Launch) (Z : State) (a0 : Array Value) (hw : ∀ d ∈ tables_1, d.before a0 Z = true) (a1 : Addr) (ch : Int32) (h0 : Heap) (O : Ext Z.heap h0) (c0 : Int32) (ka : ClassId) (V : Arv Z h0 a1 ka .byte (1 : Int32) [(.int (StrChars.lo8 c0))] (.int 0)) (r_c0 : ¬ c0 < 0 ∧ ¬ (255 : Int32) < c0) (rch : ¬ ch < 0 ∧ ¬ (255 : Int32) < ch) :
    MN l Z (⟨"java/lang/StringLatin1", "indexOf", "([BIII)I"⟩ : MethodName) jdk_43_method_22_code 4 (some .int) [] ({ frames := 1, cells := 0, slots := 0, locals := 20 } : Room) #[(.ref a1), (.int ch), (.int (0 : Int32)), (.int (1 : Int32))] h0 [] (RP h0 (fun w => ∃ v : Int32, w = .int v ∧ IX v ch [c0])) := by
  refine MN.mk (a0 := a0) rfl rfl (plainFor_of_name pn2) O (fun m => ef_rmLI1 m a1 ch) ?_
  intro pg ev s m below meth cd T hh X
  subst hh
  refine X.iloadN (pc' := 1) d12_0 rfl rfl ?_
  refine X.callP (pc' := 4) (X.sStatic (wd64 hw) (wd65 hw) (wd62 hw) (wd66 hw) (by decide) rfl pd9 [(.int ch)] rfl rfl d12_1) (rmCanI l Z a0 hw ch _ X.old rch) (wd66 hw) (wd62 hw) (leB rfl) (leB rfl) (leB rfl) (leB rfl) rfl ?_
  intro T L v X q
  subst q
  refine X.ifY (pc' := 9) d12_4 (by decide) (by decide) (by decide) ?_
  refine X.iloadN (pc' := 10) d12_9 rfl rfl ?_
  refine X.iconst (pc' := 11) (0 : Int32) d12_10 rfl rfl ?_
  refine X.callP (pc' := 14) (X.sStatic (wd67 hw) (wd68 hw) (wd69 hw) (wd70 hw) (by decide) rfl pd10 [(.int (0 : Int32)), (.int (0 : Int32))] rfl rfl d12_11) (rmMax l Z a0 hw _ X.old) (wd70 hw) (wd69 hw) (leB rfl) (leB rfl) (leB rfl) (leB rfl) rfl ?_
  intro T L v X q
  subst q
  refine X.istoreN (pc' := 15) #[.val (.ref a1), .val (.int ch), .val (.int (0 : Int32)), .val (.int (1 : Int32))] d12_14 rfl rfl ?_
  refine X.iloadN (pc' := 16) d12_15 rfl rfl ?_
  refine X.aloadN (pc' := 17) d12_16 rfl rfl rfl ?_
  refine X.alen (pc' := 18) V d12_17 rfl ?_
  refine X.callP (pc' := 21) (X.sStatic (wd71 hw) (wd72 hw) (wd69 hw) (wd73 hw) (by decide) rfl pd10 [(.int (1 : Int32)), (.int (1 : Int32))] rfl rfl d12_18) (rmMin l Z a0 hw (1 : Int32) _ X.old) (wd73 hw) (wd69 hw) (leB rfl) (leB rfl) (leB rfl) (leB rfl) rfl ?_
  intro T L v X q
  subst q
  refine X.istoreN (pc' := 22) #[.val (.ref a1), .val (.int ch), .val (.int (0 : Int32)), .val (.int (1 : Int32))] d12_21 rfl rfl ?_
  refine X.iloadN (pc' := 23) d12_22 rfl rfl ?_
  refine X.iloadN (pc' := 24) d12_23 rfl rfl ?_
  refine X.icY (pc' := 29) d12_24 (by decide) (by decide) (by decide) ?_
  refine X.aloadN (pc' := 30) d12_29 rfl rfl rfl ?_
  refine X.iloadN (pc' := 31) d12_30 rfl rfl ?_
  refine X.iloadN (pc' := 32) d12_31 rfl rfl ?_
  refine X.iloadN (pc' := 33) d12_32 rfl rfl ?_
  refine X.callP (pc' := 36) (X.sStatic (wd87 hw) (wd88 hw) (wd62 hw) (wd89 hw) (by decide) rfl pd11 [(.ref a1), (.int ch), (.int (0 : Int32)), (.int (1 : Int32))] rfl rfl d12_33) (rmLC1 l Z a0 hw a1 ch _ X.old c0 _ V r_c0 rch) (wd89 hw) (wd62 hw) (leB rfl) (leB rfl) (leB rfl) (leB rfl) rfl ?_
  intro T L v X q
  obtain ⟨vv, rfl, hv⟩ := q
  exact X.retIN (by simp) rfl d12_36 (by decide) (by decide) ⟨_, rfl, rfl, vv, rfl, hv⟩
set_option maxRecDepth 65536 in
set_option maxHeartbeats 40000000 in
theorem ef_rmLC2 (m : MethodId) (a1 : Addr) (ch : Int32) : entryFrame m #[(.ref a1), (.int ch), (.int (0 : Int32)), (.int (2 : Int32))] 6 = mkF m 0 #[.val (.ref a1), .val (.int ch), .val (.int (0 : Int32)), .val (.int (2 : Int32)), .unset, .unset] [] := by first | (simp [entryFrame, mkF, argsToLocals, Value.category]; done) | (rfl)
set_option maxRecDepth 65536 in
set_option maxHeartbeats 40000000 in
theorem rmLC2 (l : Launch) (Z : State) (a0 : Array Value) (hw : ∀ d ∈ tables_1, d.before a0 Z = true) (a1 : Addr) (ch : Int32) (h0 : Heap) (O : Ext Z.heap h0) (c0 c1 : Int32) (ka : ClassId) (V : Arv Z h0 a1 ka .byte (2 : Int32) [(.int (StrChars.lo8 c0)), (.int (StrChars.lo8 c1))] (.int 0)) (r_c0 : ¬ c0 < 0 ∧ ¬ (255 : Int32) < c0) (r_c1 : ¬ c1 < 0 ∧ ¬ (255 : Int32) < c1) (rch : ¬ ch < 0 ∧ ¬ (255 : Int32) < ch) :
    MN l Z (⟨"java/lang/StringLatin1", "indexOfChar", "([BIII)I"⟩ : MethodName) jdk_43_method_23_code 6 (some .int) [] ({ frames := 0, cells := 0, slots := 0, locals := 0 } : Room) #[(.ref a1), (.int ch), (.int (0 : Int32)), (.int (2 : Int32))] h0 [] (RP h0 (fun w => ∃ v : Int32, w = .int v ∧ IX v ch [c0, c1])) := by
  refine MN.mk (a0 := a0) rfl rfl (plainFor_of_name pn2) O (fun m => ef_rmLC2 m a1 ch) ?_
  intro pg ev s m below meth cd T hh X
  subst hh
  refine X.iloadN (pc' := 1) d20_0 rfl rfl ?_
  refine X.i2b (pc' := 2) d20_1 rfl ?_
  show Y.Ends _ _ _ _ (State.setTop _ (mkF _ 2 #[.val (.ref a1), .val (.int ch), .val (.int (0 : Int32)), .val (.int (2 : Int32)), .unset, .unset] [(.int (StrChars.lo8 ch))]))
  refine X.istore (pc' := 4) #[.val (.ref a1), .val (.int ch), .val (.int (0 : Int32)), .val (.int (2 : Int32)), .val (.int (StrChars.lo8 ch)), .unset] d20_2 rfl rfl ?_
  refine X.iloadN (pc' := 5) d20_4 rfl rfl ?_
  refine X.istore (pc' := 7) #[.val (.ref a1), .val (.int ch), .val (.int (0 : Int32)), .val (.int (2 : Int32)), .val (.int (StrChars.lo8 ch)), .val (.int (0 : Int32))] d20_5 rfl rfl ?_
  refine X.iload (pc' := 9) d20_7 rfl rfl ?_
  refine X.iloadN (pc' := 10) d20_9 rfl rfl ?_
  refine X.icN (pc' := 13) d20_10 (by decide) rfl ?_
  refine X.aloadN (pc' := 14) d20_13 rfl rfl rfl ?_
  refine X.iload (pc' := 16) d20_14 rfl rfl ?_
  refine X.baload (pc' := 17) (v := StrChars.lo8 c0) V ⟨by decide, by decide⟩ rfl d20_16 rfl ?_
  refine X.iload (pc' := 19) d20_17 rfl rfl ?_
  by_cases e0 : c0 = ch
  · refine X.icN (pc' := 22) d20_19 ((teq (congrArg StrChars.lo8 e0)).2) rfl ?_
    refine X.iload (pc' := 24) d20_22 rfl rfl ?_
    exact X.retIN (by simp) rfl d20_24 (by decide) (by decide) ⟨_, rfl, rfl, _, rfl, Or.inr ⟨by decide, by rw [← e0]; simp⟩⟩
  · refine X.icY (pc' := 25) d20_19 ((feq (lo8_ne r_c0 rch e0)).2) (by decide) (by decide) ?_
    refine X.iinc (pc' := 28) #[.val (.ref a1), .val (.int ch), .val (.int (0 : Int32)), .val (.int (2 : Int32)), .val (.int (StrChars.lo8 ch)), .val (.int (1 : Int32))] d20_25 rfl rfl rfl ?_
    refine X.goto (pc' := 7) d20_28 (by decide) (by decide) ?_
    refine X.iload (pc' := 9) d20_7 rfl rfl ?_
    refine X.iloadN (pc' := 10) d20_9 rfl rfl ?_
    refine X.icN (pc' := 13) d20_10 (by decide) rfl ?_
    refine X.aloadN (pc' := 14) d20_13 rfl rfl rfl ?_
    refine X.iload (pc' := 16) d20_14 rfl rfl ?_
    refine X.baload (pc' := 17) (v := StrChars.lo8 c1) V ⟨by decide, by decide⟩ rfl d20_16 rfl ?_
    refine X.iload (pc' := 19) d20_17 rfl rfl ?_
    by_cases e1 : c1 = ch
    · refine X.icN (pc' := 22) d20_19 ((teq (congrArg StrChars.lo8 e1)).2) rfl ?_
      refine X.iload (pc' := 24) d20_22 rfl rfl ?_
      exact X.retIN (by simp) rfl d20_24 (by decide) (by decide) ⟨_, rfl, rfl, _, rfl, Or.inr ⟨by decide, by rw [← e1]; simp⟩⟩
    · refine X.icY (pc' := 25) d20_19 ((feq (lo8_ne r_c1 rch e1)).2) (by decide) (by decide) ?_
      refine X.iinc (pc' := 28) #[.val (.ref a1), .val (.int ch), .val (.int (0 : Int32)), .val (.int (2 : Int32)), .val (.int (StrChars.lo8 ch)), .val (.int (2 : Int32))] d20_25 rfl rfl rfl ?_
      refine X.goto (pc' := 7) d20_28 (by decide) (by decide) ?_
      refine X.iload (pc' := 9) d20_7 rfl rfl ?_
      refine X.iloadN (pc' := 10) d20_9 rfl rfl ?_
      refine X.icY (pc' := 31) d20_10 (by decide) (by decide) (by decide) ?_
      refine X.iconst (pc' := 32) (-1 : Int32) d20_31 rfl rfl ?_
      exact X.retIN (by simp) rfl d20_32 (by decide) (by decide) ⟨_, rfl, rfl, _, rfl, Or.inl ⟨by decide, by simp; exact ⟨fun q => e0 q.symm, fun q => e1 q.symm⟩⟩⟩
set_option maxRecDepth 65536 in
set_option maxHeartbeats 40000000 in
theorem ef_rmLI2 (m : MethodId) (a1 : Addr) (ch : Int32) : entryFrame m #[(.ref a1), (.int ch), (.int (0 : Int32)), (.int (2 : Int32))] 4 = mkF m 0 #[.val (.ref a1), .val (.int ch), .val (.int (0 : Int32)), .val (.int (2 : Int32))] [] := by first | (simp [entryFrame, mkF, argsToLocals, Value.category]; done) | (rfl)
set_option maxRecDepth 65536 in
set_option maxHeartbeats 40000000 in
theorem rmLI2 (l : Launch) (Z : State) (a0 : Array Value) (hw : ∀ d ∈ tables_1, d.before a0 Z = true) (a1 : Addr) (ch : Int32) (h0 : Heap) (O : Ext Z.heap h0) (c0 c1 : Int32) (ka : ClassId) (V : Arv Z h0 a1 ka .byte (2 : Int32) [(.int (StrChars.lo8 c0)), (.int (StrChars.lo8 c1))] (.int 0)) (r_c0 : ¬ c0 < 0 ∧ ¬ (255 : Int32) < c0) (r_c1 : ¬ c1 < 0 ∧ ¬ (255 : Int32) < c1) (rch : ¬ ch < 0 ∧ ¬ (255 : Int32) < ch) :
    MN l Z (⟨"java/lang/StringLatin1", "indexOf", "([BIII)I"⟩ : MethodName) jdk_43_method_22_code 4 (some .int) [] ({ frames := 1, cells := 0, slots := 0, locals := 20 } : Room) #[(.ref a1), (.int ch), (.int (0 : Int32)), (.int (2 : Int32))] h0 [] (RP h0 (fun w => ∃ v : Int32, w = .int v ∧ IX v ch [c0, c1])) := by
  refine MN.mk (a0 := a0) rfl rfl (plainFor_of_name pn2) O (fun m => ef_rmLI2 m a1 ch) ?_
  intro pg ev s m below meth cd T hh X
  subst hh
  refine X.iloadN (pc' := 1) d12_0 rfl rfl ?_
  refine X.callP (pc' := 4) (X.sStatic (wd64 hw) (wd65 hw) (wd62 hw) (wd66 hw) (by decide) rfl pd9 [(.int ch)] rfl rfl d12_1) (rmCanI l Z a0 hw ch _ X.old rch) (wd66 hw) (wd62 hw) (leB rfl) (leB rfl) (leB rfl) (leB rfl) rfl ?_
  intro T L v X q
  subst q
  refine X.ifY (pc' := 9) d12_4 (by decide) (by decide) (by decide) ?_
  refine X.iloadN (pc' := 10) d12_9 rfl rfl ?_
  refine X.iconst (pc' := 11) (0 : Int32) d12_10 rfl rfl ?_
  refine X.callP (pc' := 14) (X.sStatic (wd67 hw) (wd68 hw) (wd69 hw) (wd70 hw) (by decide) rfl pd10 [(.int (0 : Int32)), (.int (0 : Int32))] rfl rfl d12_11) (rmMax l Z a0 hw _ X.old) (wd70 hw) (wd69 hw) (leB rfl) (leB rfl) (leB rfl) (leB rfl) rfl ?_
  intro T L v X q
  subst q
  refine X.istoreN (pc' := 15) #[.val (.ref a1), .val (.int ch), .val (.int (0 : Int32)), .val (.int (2 : Int32))] d12_14 rfl rfl ?_
  refine X.iloadN (pc' := 16) d12_15 rfl rfl ?_
  refine X.aloadN (pc' := 17) d12_16 rfl rfl rfl ?_
  refine X.alen (pc' := 18) V d12_17 rfl ?_
  refine X.callP (pc' := 21) (X.sStatic (wd71 hw) (wd72 hw) (wd69 hw) (wd73 hw) (by decide) rfl pd10 [(.int (2 : Int32)), (.int (2 : Int32))] rfl rfl d12_18) (rmMin l Z a0 hw (2 : Int32) _ X.old) (wd73 hw) (wd69 hw) (leB rfl) (leB rfl) (leB rfl) (leB rfl) rfl ?_
  intro T L v X q
  subst q
  refine X.istoreN (pc' := 22) #[.val (.ref a1), .val (.int ch), .val (.int (0 : Int32)), .val (.int (2 : Int32))] d12_21 rfl rfl ?_
  refine X.iloadN (pc' := 23) d12_22 rfl rfl ?_
  refine X.iloadN (pc' := 24) d12_23 rfl rfl ?_
  refine X.icY (pc' := 29) d12_24 (by decide) (by decide) (by decide) ?_
  refine X.aloadN (pc' := 30) d12_29 rfl rfl rfl ?_
  refine X.iloadN (pc' := 31) d12_30 rfl rfl ?_
  refine X.iloadN (pc' := 32) d12_31 rfl rfl ?_
  refine X.iloadN (pc' := 33) d12_32 rfl rfl ?_
  refine X.callP (pc' := 36) (X.sStatic (wd87 hw) (wd88 hw) (wd62 hw) (wd89 hw) (by decide) rfl pd11 [(.ref a1), (.int ch), (.int (0 : Int32)), (.int (2 : Int32))] rfl rfl d12_33) (rmLC2 l Z a0 hw a1 ch _ X.old c0 c1 _ V r_c0 r_c1 rch) (wd89 hw) (wd62 hw) (leB rfl) (leB rfl) (leB rfl) (leB rfl) rfl ?_
  intro T L v X q
  obtain ⟨vv, rfl, hv⟩ := q
  exact X.retIN (by simp) rfl d12_36 (by decide) (by decide) ⟨_, rfl, rfl, vv, rfl, hv⟩
set_option maxRecDepth 65536 in
set_option maxHeartbeats 40000000 in
theorem ef_rmLC3 (m : MethodId) (a1 : Addr) (ch : Int32) : entryFrame m #[(.ref a1), (.int ch), (.int (0 : Int32)), (.int (3 : Int32))] 6 = mkF m 0 #[.val (.ref a1), .val (.int ch), .val (.int (0 : Int32)), .val (.int (3 : Int32)), .unset, .unset] [] := by first | (simp [entryFrame, mkF, argsToLocals, Value.category]; done) | (rfl)
set_option maxRecDepth 65536 in
set_option maxHeartbeats 40000000 in
theorem rmLC3 (l : Launch) (Z : State) (a0 : Array Value) (hw : ∀ d ∈ tables_1, d.before a0 Z = true) (a1 : Addr) (ch : Int32) (h0 : Heap) (O : Ext Z.heap h0) (c0 c1 c2 : Int32) (ka : ClassId) (V : Arv Z h0 a1 ka .byte (3 : Int32) [(.int (StrChars.lo8 c0)), (.int (StrChars.lo8 c1)), (.int (StrChars.lo8 c2))] (.int 0)) (r_c0 : ¬ c0 < 0 ∧ ¬ (255 : Int32) < c0) (r_c1 : ¬ c1 < 0 ∧ ¬ (255 : Int32) < c1) (r_c2 : ¬ c2 < 0 ∧ ¬ (255 : Int32) < c2) (rch : ¬ ch < 0 ∧ ¬ (255 : Int32) < ch) :
    MN l Z (⟨"java/lang/StringLatin1", "indexOfChar", "([BIII)I"⟩ : MethodName) jdk_43_method_23_code 6 (some .int) [] ({ frames := 0, cells := 0, slots := 0, locals := 0 } : Room) #[(.ref a1), (.int ch), (.int (0 : Int32)), (.int (3 : Int32))] h0 [] (RP h0 (fun w => ∃ v : Int32, w = .int v ∧ IX v ch [c0, c1, c2])) := by
  refine MN.mk (a0 := a0) rfl rfl (plainFor_of_name pn2) O (fun m => ef_rmLC3 m a1 ch) ?_
  intro pg ev s m below meth cd T hh X
  subst hh
  refine X.iloadN (pc' := 1) d20_0 rfl rfl ?_
  refine X.i2b (pc' := 2) d20_1 rfl ?_
  show Y.Ends _ _ _ _ (State.setTop _ (mkF _ 2 #[.val (.ref a1), .val (.int ch), .val (.int (0 : Int32)), .val (.int (3 : Int32)), .unset, .unset] [(.int (StrChars.lo8 ch))]))
  refine X.istore (pc' := 4) #[.val (.ref a1), .val (.int ch), .val (.int (0 : Int32)), .val (.int (3 : Int32)), .val (.int (StrChars.lo8 ch)), .unset] d20_2 rfl rfl ?_
  refine X.iloadN (pc' := 5) d20_4 rfl rfl ?_
  refine X.istore (pc' := 7) #[.val (.ref a1), .val (.int ch), .val (.int (0 : Int32)), .val (.int (3 : Int32)), .val (.int (StrChars.lo8 ch)), .val (.int (0 : Int32))] d20_5 rfl rfl ?_
  refine X.iload (pc' := 9) d20_7 rfl rfl ?_
  refine X.iloadN (pc' := 10) d20_9 rfl rfl ?_
  refine X.icN (pc' := 13) d20_10 (by decide) rfl ?_
  refine X.aloadN (pc' := 14) d20_13 rfl rfl rfl ?_
  refine X.iload (pc' := 16) d20_14 rfl rfl ?_
  refine X.baload (pc' := 17) (v := StrChars.lo8 c0) V ⟨by decide, by decide⟩ rfl d20_16 rfl ?_
  refine X.iload (pc' := 19) d20_17 rfl rfl ?_
  by_cases e0 : c0 = ch
  · refine X.icN (pc' := 22) d20_19 ((teq (congrArg StrChars.lo8 e0)).2) rfl ?_
    refine X.iload (pc' := 24) d20_22 rfl rfl ?_
    exact X.retIN (by simp) rfl d20_24 (by decide) (by decide) ⟨_, rfl, rfl, _, rfl, Or.inr ⟨by decide, by rw [← e0]; simp⟩⟩
  · refine X.icY (pc' := 25) d20_19 ((feq (lo8_ne r_c0 rch e0)).2) (by decide) (by decide) ?_
    refine X.iinc (pc' := 28) #[.val (.ref a1), .val (.int ch), .val (.int (0 : Int32)), .val (.int (3 : Int32)), .val (.int (StrChars.lo8 ch)), .val (.int (1 : Int32))] d20_25 rfl rfl rfl ?_
    refine X.goto (pc' := 7) d20_28 (by decide) (by decide) ?_
    refine X.iload (pc' := 9) d20_7 rfl rfl ?_
    refine X.iloadN (pc' := 10) d20_9 rfl rfl ?_
    refine X.icN (pc' := 13) d20_10 (by decide) rfl ?_
    refine X.aloadN (pc' := 14) d20_13 rfl rfl rfl ?_
    refine X.iload (pc' := 16) d20_14 rfl rfl ?_
    refine X.baload (pc' := 17) (v := StrChars.lo8 c1) V ⟨by decide, by decide⟩ rfl d20_16 rfl ?_
    refine X.iload (pc' := 19) d20_17 rfl rfl ?_
    by_cases e1 : c1 = ch
    · refine X.icN (pc' := 22) d20_19 ((teq (congrArg StrChars.lo8 e1)).2) rfl ?_
      refine X.iload (pc' := 24) d20_22 rfl rfl ?_
      exact X.retIN (by simp) rfl d20_24 (by decide) (by decide) ⟨_, rfl, rfl, _, rfl, Or.inr ⟨by decide, by rw [← e1]; simp⟩⟩
    · refine X.icY (pc' := 25) d20_19 ((feq (lo8_ne r_c1 rch e1)).2) (by decide) (by decide) ?_
      refine X.iinc (pc' := 28) #[.val (.ref a1), .val (.int ch), .val (.int (0 : Int32)), .val (.int (3 : Int32)), .val (.int (StrChars.lo8 ch)), .val (.int (2 : Int32))] d20_25 rfl rfl rfl ?_
      refine X.goto (pc' := 7) d20_28 (by decide) (by decide) ?_
      refine X.iload (pc' := 9) d20_7 rfl rfl ?_
      refine X.iloadN (pc' := 10) d20_9 rfl rfl ?_
      refine X.icN (pc' := 13) d20_10 (by decide) rfl ?_
      refine X.aloadN (pc' := 14) d20_13 rfl rfl rfl ?_
      refine X.iload (pc' := 16) d20_14 rfl rfl ?_
      refine X.baload (pc' := 17) (v := StrChars.lo8 c2) V ⟨by decide, by decide⟩ rfl d20_16 rfl ?_
      refine X.iload (pc' := 19) d20_17 rfl rfl ?_
      by_cases e2 : c2 = ch
      · refine X.icN (pc' := 22) d20_19 ((teq (congrArg StrChars.lo8 e2)).2) rfl ?_
        refine X.iload (pc' := 24) d20_22 rfl rfl ?_
        exact X.retIN (by simp) rfl d20_24 (by decide) (by decide) ⟨_, rfl, rfl, _, rfl, Or.inr ⟨by decide, by rw [← e2]; simp⟩⟩
      · refine X.icY (pc' := 25) d20_19 ((feq (lo8_ne r_c2 rch e2)).2) (by decide) (by decide) ?_
        refine X.iinc (pc' := 28) #[.val (.ref a1), .val (.int ch), .val (.int (0 : Int32)), .val (.int (3 : Int32)), .val (.int (StrChars.lo8 ch)), .val (.int (3 : Int32))] d20_25 rfl rfl rfl ?_
        refine X.goto (pc' := 7) d20_28 (by decide) (by decide) ?_
        refine X.iload (pc' := 9) d20_7 rfl rfl ?_
        refine X.iloadN (pc' := 10) d20_9 rfl rfl ?_
        refine X.icY (pc' := 31) d20_10 (by decide) (by decide) (by decide) ?_
        refine X.iconst (pc' := 32) (-1 : Int32) d20_31 rfl rfl ?_
        exact X.retIN (by simp) rfl d20_32 (by decide) (by decide) ⟨_, rfl, rfl, _, rfl, Or.inl ⟨by decide, by simp; exact ⟨fun q => e0 q.symm, fun q => e1 q.symm, fun q => e2 q.symm⟩⟩⟩
set_option maxRecDepth 65536 in
set_option maxHeartbeats 40000000 in
theorem ef_rmLI3 (m : MethodId) (a1 : Addr) (ch : Int32) : entryFrame m #[(.ref a1), (.int ch), (.int (0 : Int32)), (.int (3 : Int32))] 4 = mkF m 0 #[.val (.ref a1), .val (.int ch), .val (.int (0 : Int32)), .val (.int (3 : Int32))] [] := by first | (simp [entryFrame, mkF, argsToLocals, Value.category]; done) | (rfl)
set_option maxRecDepth 65536 in
set_option maxHeartbeats 40000000 in
theorem rmLI3 (l : Launch) (Z : State) (a0 : Array Value) (hw : ∀ d ∈ tables_1, d.before a0 Z = true) (a1 : Addr) (ch : Int32) (h0 : Heap) (O : Ext Z.heap h0) (c0 c1 c2 : Int32) (ka : ClassId) (V : Arv Z h0 a1 ka .byte (3 : Int32) [(.int (StrChars.lo8 c0)), (.int (StrChars.lo8 c1)), (.int (StrChars.lo8 c2))] (.int 0)) (r_c0 : ¬ c0 < 0 ∧ ¬ (255 : Int32) < c0) (r_c1 : ¬ c1 < 0 ∧ ¬ (255 : Int32) < c1) (r_c2 : ¬ c2 < 0 ∧ ¬ (255 : Int32) < c2) (rch : ¬ ch < 0 ∧ ¬ (255 : Int32) < ch) :
    MN l Z (⟨"java/lang/StringLatin1", "indexOf", "([BIII)I"⟩ : MethodName) jdk_43_method_22_code 4 (some .int) [] ({ frames := 1, cells := 0, slots := 0, locals := 20 } : Room) #[(.ref a1), (.int ch), (.int (0 : Int32)), (.int (3 : Int32))] h0 [] (RP h0 (fun w => ∃ v : Int32, w = .int v ∧ IX v ch [c0, c1, c2])) := by
  refine MN.mk (a0 := a0) rfl rfl (plainFor_of_name pn2) O (fun m => ef_rmLI3 m a1 ch) ?_
  intro pg ev s m below meth cd T hh X
  subst hh
  refine X.iloadN (pc' := 1) d12_0 rfl rfl ?_
  refine X.callP (pc' := 4) (X.sStatic (wd64 hw) (wd65 hw) (wd62 hw) (wd66 hw) (by decide) rfl pd9 [(.int ch)] rfl rfl d12_1) (rmCanI l Z a0 hw ch _ X.old rch) (wd66 hw) (wd62 hw) (leB rfl) (leB rfl) (leB rfl) (leB rfl) rfl ?_
  intro T L v X q
  subst q
  refine X.ifY (pc' := 9) d12_4 (by decide) (by decide) (by decide) ?_
  refine X.iloadN (pc' := 10) d12_9 rfl rfl ?_
  refine X.iconst (pc' := 11) (0 : Int32) d12_10 rfl rfl ?_
  refine X.callP (pc' := 14) (X.sStatic (wd67 hw) (wd68 hw) (wd69 hw) (wd70 hw) (by decide) rfl pd10 [(.int (0 : Int32)), (.int (0 : Int32))] rfl rfl d12_11) (rmMax l Z a0 hw _ X.old) (wd70 hw) (wd69 hw) (leB rfl) (leB rfl) (leB rfl) (leB rfl) rfl ?_
  intro T L v X q
  subst q
  refine X.istoreN (pc' := 15) #[.val (.ref a1), .val (.int ch), .val (.int (0 : Int32)), .val (.int (3 : Int32))] d12_14 rfl rfl ?_
  refine X.iloadN (pc' := 16) d12_15 rfl rfl ?_
  refine X.aloadN (pc' := 17) d12_16 rfl rfl rfl ?_
  refine X.alen (pc' := 18) V d12_17 rfl ?_
  refine X.callP (pc' := 21) (X.sStatic (wd71 hw) (wd72 hw) (wd69 hw) (wd73 hw) (by decide) rfl pd10 [(.int (3 : Int32)), (.int (3 : Int32))] rfl rfl d12_18) (rmMin l Z a0 hw (3 : Int32) _ X.old) (wd73 hw) (wd69 hw) (leB rfl) (leB rfl) (leB rfl) (leB rfl) rfl ?_
  intro T L v X q
  subst q
  refine X.istoreN (pc' := 22) #[.val (.ref a1), .val (.int ch), .val (.int (0 : Int32)), .val (.int (3 : Int32))] d12_21 rfl rfl ?_
  refine X.iloadN (pc' := 23) d12_22 rfl rfl ?_
  refine X.iloadN (pc' := 24) d12_23 rfl rfl ?_
  refine X.icY (pc' := 29) d12_24 (by decide) (by decide) (by decide) ?_
  refine X.aloadN (pc' := 30) d12_29 rfl rfl rfl ?_
  refine X.iloadN (pc' := 31) d12_30 rfl rfl ?_
  refine X.iloadN (pc' := 32) d12_31 rfl rfl ?_
  refine X.iloadN (pc' := 33) d12_32 rfl rfl ?_
  refine X.callP (pc' := 36) (X.sStatic (wd87 hw) (wd88 hw) (wd62 hw) (wd89 hw) (by decide) rfl pd11 [(.ref a1), (.int ch), (.int (0 : Int32)), (.int (3 : Int32))] rfl rfl d12_33) (rmLC3 l Z a0 hw a1 ch _ X.old c0 c1 c2 _ V r_c0 r_c1 r_c2 rch) (wd89 hw) (wd62 hw) (leB rfl) (leB rfl) (leB rfl) (leB rfl) rfl ?_
  intro T L v X q
  obtain ⟨vv, rfl, hv⟩ := q
  exact X.retIN (by simp) rfl d12_36 (by decide) (by decide) ⟨_, rfl, rfl, vv, rfl, hv⟩
set_option maxRecDepth 65536 in
set_option maxHeartbeats 40000000 in
theorem ef_rmUU1 (m : MethodId) (a1 : Addr) (ch : Int32) : entryFrame m #[(.ref a1), (.int ch), (.int (0 : Int32)), (.int (1 : Int32))] 5 = mkF m 0 #[.val (.ref a1), .val (.int ch), .val (.int (0 : Int32)), .val (.int (1 : Int32)), .unset] [] := by first | (simp [entryFrame, mkF, argsToLocals, Value.category]; done) | (rfl)
set_option maxRecDepth 65536 in
set_option maxHeartbeats 40000000 in
theorem rmUU1 (l : Launch) (Z : State) (a0 : Array Value) (hw : ∀ d ∈ tables_1, d.before a0 Z = true) (a1 : Addr) (ch : Int32) (h0 : Heap) (O : Ext Z.heap h0) (SA : Sta Z Z.heap "java/lang/StringUTF16" "$assertionsDisabled" "Z" (.int 1)) (SH : Sta Z Z.heap "java/lang/StringUTF16" "HI_BYTE_SHIFT" "I" (.int 0)) (SL : Sta Z Z.heap "java/lang/StringUTF16" "LO_BYTE_SHIFT" "I" (.int 8)) (c0 : Int32) (ka : ClassId) (V : Arv Z h0 a1 ka .byte (2 : Int32) [(.int (StrChars.lo8 c0)), (.int (StrChars.hi8 c0))] (.int 0)) (r_c0 : ¬ c0 < 0 ∧ ¬ (65535 : Int32) < c0) :
    MN l Z (⟨"java/lang/StringUTF16", "indexOfCharUnsafe", "([BIII)I"⟩ : MethodName) jdk_52_method_48_code 5 (some .int) [] ({ frames := 1, cells := 0, slots := 0, locals := 20 } : Room) #[(.ref a1), (.int ch), (.int (0 : Int32)), (.int (1 : Int32))] h0 [] (RP h0 (fun w => ∃ v : Int32, w = .int v ∧ IX v ch [c0])) := by
  refine MN.mk (a0 := a0) rfl rfl (plainFor_of_name pn1) O (fun m => ef_rmUU1 m a1 ch) ?_
  intro pg ev s m below meth cd T hh X
  subst hh
  refine X.iloadN (pc' := 1) d32_0 rfl rfl ?_
  refine X.istore (pc' := 3) #[.val (.ref a1), .val (.int ch), .val (.int (0 : Int32)), .val (.int (1 : Int32)), .val (.int (0 : Int32))] d32_1 rfl rfl ?_
  refine X.iload (pc' := 5) d32_3 rfl rfl ?_
  refine X.iloadN (pc' := 6) d32_5 rfl rfl ?_
  refine X.icN (pc' := 9) d32_6 (by decide) rfl ?_
  refine X.aloadN (pc' := 10) d32_9 rfl rfl rfl ?_
  refine X.iload (pc' := 12) d32_10 rfl rfl ?_
  refine X.callP (pc' := 15) (X.sStatic (wd106 hw) (wd107 hw) (wd76 hw) (wd108 hw) (by decide) rfl pd6 [(.ref a1), (.int (0 : Int32))] rfl rfl d32_12) (rmGet l Z a0 hw a1 (0 : Int32) _ X.old SA SH SL (0 : Int32) (by decide) _ _ _ V ⟨by decide, by decide⟩ ⟨by decide, by decide⟩ c0 r_c0 rfl rfl) (wd108 hw) (wd76 hw) (leB rfl) (leB rfl) (leB rfl) (leB rfl) rfl ?_
  intro T L v X q
  subst q
  refine X.iloadN (pc' := 16) d32_15 rfl rfl ?_
  by_cases e0 : c0 = ch
  · refine X.icN (pc' := 19) d32_16 ((teq e0).2) rfl ?_
    refine X.iload (pc' := 21) d32_19 rfl rfl ?_
    exact X.retIN (by simp) rfl d32_21 (by decide) (by decide) ⟨_, rfl, rfl, _, rfl, Or.inr ⟨by decide, by rw [← e0]; simp⟩⟩
  · refine X.icY (pc' := 22) d32_16 ((feq e0).2) (by decide) (by decide) ?_
    refine X.iinc (pc' := 25) #[.val (.ref a1), .val (.int ch), .val (.int (0 : Int32)), .val (.int (1 : Int32)), .val (.int (1 : Int32))] d32_22 rfl rfl rfl ?_
    refine X.goto (pc' := 3) d32_25 (by decide) (by decide) ?_
    refine X.iload (pc' := 5) d32_3 rfl rfl ?_
    refine X.iloadN (pc' := 6) d32_5 rfl rfl ?_
    refine X.icY (pc' := 28) d32_6 (by decide) (by decide) (by decide) ?_
    refine X.iconst (pc' := 29) (-1 : Int32) d32_28 rfl rfl ?_
    exact X.retIN (by simp) rfl d32_29 (by decide) (by decide) ⟨_, rfl, rfl, _, rfl, Or.inl ⟨by decide, by simp; exact fun q => e0 q.symm⟩⟩
set_option maxRecDepth 65536 in
set_option maxHeartbeats 40000000 in
theorem ef_rmUL1 (m : MethodId) (a1 : Addr) : entryFrame m #[(.ref a1)] 1 = mkF m 0 #[.val (.ref a1)] [] := by first | (simp [entryFrame, mkF, argsToLocals, Value.category]; done) | (rfl)
set_option maxRecDepth 65536 in
set_option maxHeartbeats 40000000 in
theorem rmUL1 (l : Launch) (Z : State) (a0 : Array Value) (hw : ∀ d ∈ tables_1, d.before a0 Z = true) (a1 : Addr) (h0 : Heap) (O : Ext Z.heap h0) (ka : ClassId) (vs : List Value) (V : Arv Z h0 a1 ka .byte (2 : Int32) vs (.int 0)) :
    MN l Z (⟨"java/lang/StringUTF16", "length", "([B)I"⟩ : MethodName) jdk_52_method_6_code 1 (some .int) [] ({ frames := 0, cells := 0, slots := 0, locals := 0 } : Room) #[(.ref a1)] h0 [] (RP h0 (fun w => w = .int (1 : Int32))) := by
  refine MN.mk (a0 := a0) rfl rfl (plainFor_of_name pn1) O (fun m => ef_rmUL1 m a1) ?_
  intro pg ev s m below meth cd T hh X
  subst hh
  refine X.aloadN (pc' := 1) d29_0 rfl rfl rfl ?_
  refine X.alen (pc' := 2) V d29_1 rfl ?_
  refine X.iconst (pc' := 3) (1 : Int32) d29_2 rfl rfl ?_
  refine X.ishr (pc' := 4) d29_3 rfl ?_
  rw [show (((2 : Int32) >>> ((1 : Int32) &&& 31)) : Int32) = (1 : Int32) from by decide]
  exact X.retIN (by simp) rfl d29_4 (by decide) (by decide) ⟨_, rfl, rfl, rfl⟩
set_option maxRecDepth 65536 in
set_option maxHeartbeats 40000000 in
theorem ef_rmUC1 (m : MethodId) (a1 : Addr) : entryFrame m #[(.int (0 : Int32)), (.int (1 : Int32)), (.ref a1)] 3 = mkF m 0 #[.val (.int (0 : Int32)), .val (.int (1 : Int32)), .val (.ref a1)] [] := by first | (simp [entryFrame, mkF, argsToLocals, Value.category]; done) | (rfl)
set_option maxRecDepth 65536 in
set_option maxHeartbeats 40000000 in
theorem rmUC1 (l : Launch) (Z : State) (a0 : Array Value) (hw : ∀ d ∈ tables_1, d.before a0 Z = true) (a1 : Addr) (h0 : Heap) (O : Ext Z.heap h0) (fm : Value) (rf : fm.isRef = true) (SF : Sta Z Z.heap "jdk/internal/util/Preconditions" "SIOOBE_FORMATTER" "Ljava/util/function/BiFunction;" fm) (ka : ClassId) (vs : List Value) (V : Arv Z h0 a1 ka .byte (2 : Int32) vs (.int 0)) :
    MN l Z (⟨"java/lang/StringUTF16", "checkBoundsBeginEnd", "(II[B)V"⟩ : MethodName) jdk_52_method_93_code 3 none [] ({ frames := 2, cells := 0, slots := 0, locals := 40 } : Room) #[(.int (0 : Int32)), (.int (1 : Int32)), (.ref a1)] h0 [] (RO h0) := by
  refine MN.mk (a0 := a0) rfl rfl (plainFor_of_name pn1) O (fun m => ef_rmUC1 m a1) ?_
  intro pg ev s m below meth cd T hh X
  subst hh
  refine X.iloadN (pc' := 1) d28_0 rfl rfl ?_
  refine X.iloadN (pc' := 2) d28_1 rfl rfl ?_
  refine X.aloadN (pc' := 3) d28_2 rfl rfl rfl ?_
  refine X.callP (pc' := 6) (X.sStatic (wd121 hw) (wd122 hw) (wd76 hw) (wd123 hw) (by decide) rfl pd12 [(.ref a1)] rfl rfl d28_3) (rmUL1 l Z a0 hw a1 _ X.old _ _ V) (wd123 hw) (wd76 hw) (leB rfl) (leB rfl) (leB rfl) (leB rfl) rfl ?_
  intro T L v X q
  subst q
  refine X.callO (pc' := 9) (X.sStatic (wd124 hw) (wd125 hw) (wd10 hw) (wd126 hw) (by decide) rfl pd13 [(.int (0 : Int32)), (.int (1 : Int32)), (.int (1 : Int32))] rfl rfl d28_6) (rmCBE l Z a0 hw (1 : Int32) _ X.old fm rf SF (by decide)) (wd126 hw) (wd10 hw) (leB rfl) (leB rfl) (leB rfl) (leB rfl) rfl ?_
  intro T L X
  exact X.retUN d28_9 (by decide) (by decide) ⟨rfl, rfl⟩
set_option maxRecDepth 65536 in
set_option maxHeartbeats 40000000 in
theorem ef_rmUK1 (m : MethodId) (a1 : Addr) (ch : Int32) : entryFrame m #[(.ref a1), (.int ch), (.int (0 : Int32)), (.int (1 : Int32))] 4 = mkF m 0 #[.val (.ref a1), .val (.int ch), .val (.int (0 : Int32)), .val (.int (1 : Int32))] [] := by first | (simp [entryFrame, mkF, argsToLocals, Value.category]; done) | (rfl)
set_option maxRecDepth 65536 in
set_option maxHeartbeats 40000000 in
theorem rmUK1 (l : Launch) (Z : State) (a0 : Array Value) (hw : ∀ d ∈ tables_1, d.before a0 Z = true) (a1 : Addr) (ch : Int32) (h0 : Heap) (O : Ext Z.heap h0) (fm : Value) (rf : fm.isRef = true) (SF : Sta Z Z.heap "jdk/internal/util/Preconditions" "SIOOBE_FORMATTER" "Ljava/util/function/BiFunction;" fm) (SA : Sta Z Z.heap "java/lang/StringUTF16" "$assertionsDisabled" "Z" (.int 1)) (SH : Sta Z Z.heap "java/lang/StringUTF16" "HI_BYTE_SHIFT" "I" (.int 0)) (SL : Sta Z Z.heap "java/lang/StringUTF16" "LO_BYTE_SHIFT" "I" (.int 8)) (c0 : Int32) (ka : ClassId) (V : Arv Z h0 a1 ka .byte (2 : Int32) [(.int (StrChars.lo8 c0)), (.int (StrChars.hi8 c0))] (.int 0)) (r_c0 : ¬ c0 < 0 ∧ ¬ (65535 : Int32) < c0) :
    MN l Z (⟨"java/lang/StringUTF16", "indexOfChar", "([BIII)I"⟩ : MethodName) jdk_52_method_47_code 4 (some .int) [] ({ frames := 3, cells := 0, slots := 0, locals := 60 } : Room) #[(.ref a1), (.int ch), (.int (0 : Int32)), (.int (1 : Int32))] h0 [] (RP h0 (fun w => ∃ v : Int32, w = .int v ∧ IX v ch [c0])) := by
  refine MN.mk (a0 := a0) rfl rfl (plainFor_of_name pn1) O (fun m => ef_rmUK1 m a1 ch) ?_
  intro pg ev s m below meth cd T hh X
  subst hh
  refine X.iloadN (pc' := 1) d27_0 rfl rfl ?_
  refine X.iloadN (pc' := 2) d27_1 rfl rfl ?_
  refine X.aloadN (pc' := 3) d27_2 rfl rfl rfl ?_
  refine X.callO (pc' := 6) (X.sStatic (wd118 hw) (wd119 hw) (wd76 hw) (wd120 hw) (by decide) rfl pd14 [(.int (0 : Int32)), (.int (1 : Int32)), (.ref a1)] rfl rfl d27_3) (rmUC1 l Z a0 hw a1 _ X.old fm rf SF _ _ V) (wd120 hw) (wd76 hw) (leB rfl) (leB rfl) (leB rfl) (leB rfl) rfl ?_
  intro T L X
  refine X.aloadN (pc' := 7) d27_6 rfl rfl rfl ?_
  refine X.iloadN (pc' := 8) d27_7 rfl rfl ?_
  refine X.iloadN (pc' := 9) d27_8 rfl rfl ?_
  refine X.iloadN (pc' := 10) d27_9 rfl rfl ?_
  refine X.callP (pc' := 13) (X.sStatic (wd132 hw) (wd133 hw) (wd76 hw) (wd134 hw) (by decide) rfl pd11 [(.ref a1), (.int ch), (.int (0 : Int32)), (.int (1 : Int32))] rfl rfl d27_10) (rmUU1 l Z a0 hw a1 ch _ X.old SA SH SL c0 _ V r_c0) (wd134 hw) (wd76 hw) (leB rfl) (leB rfl) (leB rfl) (leB rfl) rfl ?_
  intro T L v X q
  obtain ⟨vv, rfl, hv⟩ := q
  exact X.retIN (by simp) rfl d27_13 (by decide) (by decide) ⟨_, rfl, rfl, vv, rfl, hv⟩
set_option maxRecDepth 65536 in
set_option maxHeartbeats 40000000 in
theorem ef_rmUI1 (m : MethodId) (a1 : Addr) (ch : Int32) : entryFrame m #[(.ref a1), (.int ch), (.int (0 : Int32)), (.int (1 : Int32))] 4 = mkF m 0 #[.val (.ref a1), .val (.int ch), .val (.int (0 : Int32)), .val (.int (1 : Int32))] [] := by first | (simp [entryFrame, mkF, argsToLocals, Value.category]; done) | (rfl)
set_option maxRecDepth 65536 in
set_option maxHeartbeats 40000000 in
theorem rmUI1 (l : Launch) (Z : State) (a0 : Array Value) (hw : ∀ d ∈ tables_1, d.before a0 Z = true) (a1 : Addr) (ch : Int32) (h0 : Heap) (O : Ext Z.heap h0) (fm : Value) (rf : fm.isRef = true) (SF : Sta Z Z.heap "jdk/internal/util/Preconditions" "SIOOBE_FORMATTER" "Ljava/util/function/BiFunction;" fm) (SA : Sta Z Z.heap "java/lang/StringUTF16" "$assertionsDisabled" "Z" (.int 1)) (SH : Sta Z Z.heap "java/lang/StringUTF16" "HI_BYTE_SHIFT" "I" (.int 0)) (SL : Sta Z Z.heap "java/lang/StringUTF16" "LO_BYTE_SHIFT" "I" (.int 8)) (c0 : Int32) (ka : ClassId) (V : Arv Z h0 a1 ka .byte (2 : Int32) [(.int (StrChars.lo8 c0)), (.int (StrChars.hi8 c0))] (.int 0)) (r_c0 : ¬ c0 < 0 ∧ ¬ (65535 : Int32) < c0) (hch : ch < (65536 : Int32)) :
    MN l Z (⟨"java/lang/StringUTF16", "indexOf", "([BIII)I"⟩ : MethodName) jdk_52_method_40_code 4 (some .int) [] ({ frames := 4, cells := 0, slots := 0, locals := 80 } : Room) #[(.ref a1), (.int ch), (.int (0 : Int32)), (.int (1 : Int32))] h0 [] (RP h0 (fun w => ∃ v : Int32, w = .int v ∧ IX v ch [c0])) := by
  refine MN.mk (a0 := a0) rfl rfl (plainFor_of_name pn1) O (fun m => ef_rmUI1 m a1 ch) ?_
  intro pg ev s m below meth cd T hh X
  subst hh
  refine X.iloadN (pc' := 1) d26_0 rfl rfl ?_
  refine X.iconst (pc' := 2) (0 : Int32) d26_1 rfl rfl ?_
  refine X.callP (pc' := 5) (X.sStatic (wd112 hw) (wd68 hw) (wd69 hw) (wd70 hw) (by decide) rfl pd10 [(.int (0 : Int32)), (.int (0 : Int32))] rfl rfl d26_2) (rmMax l Z a0 hw _ X.old) (wd70 hw) (wd69 hw) (leB rfl) (leB rfl) (leB rfl) (leB rfl) rfl ?_
  intro T L v X q
  subst q
  refine X.istoreN (pc' := 6) #[.val (.ref a1), .val (.int ch), .val (.int (0 : Int32)), .val (.int (1 : Int32))] d26_5 rfl rfl ?_
  refine X.iloadN (pc' := 7) d26_6 rfl rfl ?_
  refine X.aloadN (pc' := 8) d26_7 rfl rfl rfl ?_
  refine X.alen (pc' := 9) V d26_8 rfl ?_
  refine X.iconst (pc' := 10) (1 : Int32) d26_9 rfl rfl ?_
  refine X.ishr (pc' := 11) d26_10 rfl ?_
  rw [show (((2 : Int32) >>> ((1 : Int32) &&& 31)) : Int32) = (1 : Int32) from by decide]
  refine X.callP (pc' := 14) (X.sStatic (wd113 hw) (wd72 hw) (wd69 hw) (wd73 hw) (by decide) rfl pd10 [(.int (1 : Int32)), (.int (1 : Int32))] rfl rfl d26_11) (rmMin l Z a0 hw (1 : Int32) _ X.old) (wd73 hw) (wd69 hw) (leB rfl) (leB rfl) (leB rfl) (leB rfl) rfl ?_
  intro T L v X q
  subst q
  refine X.istoreN (pc' := 15) #[.val (.ref a1), .val (.int ch), .val (.int (0 : Int32)), .val (.int (1 : Int32))] d26_14 rfl rfl ?_
  refine X.iloadN (pc' := 16) d26_15 rfl rfl ?_
  refine X.iloadN (pc' := 17) d26_16 rfl rfl ?_
  refine X.icY (pc' := 22) d26_17 (by decide) (by decide) (by decide) ?_
  refine X.iloadN (pc' := 23) d26_22 rfl rfl ?_
  refine X.ldcI (pc' := 25) (wd114 hw) d26_23 rfl ?_
  refine X.icN (pc' := 28) d26_25 ((tlt hch).2.1) rfl ?_
  refine X.aloadN (pc' := 29) d26_28 rfl rfl rfl ?_
  refine X.iloadN (pc' := 30) d26_29 rfl rfl ?_
  refine X.iloadN (pc' := 31) d26_30 rfl rfl ?_
  refine X.iloadN (pc' := 32) d26_31 rfl rfl ?_
  refine X.callP (pc' := 35) (X.sStatic (wd115 hw) (wd116 hw) (wd76 hw) (wd117 hw) (by decide) rfl pd11 [(.ref a1), (.int ch), (.int (0 : Int32)), (.int (1 : Int32))] rfl rfl d26_32) (rmUK1 l Z a0 hw a1 ch _ X.old fm rf SF SA SH SL c0 _ V r_c0) (wd117 hw) (wd76 hw) (leB rfl) (leB rfl) (leB rfl) (leB rfl) rfl ?_
  intro T L v X q
  obtain ⟨vv, rfl, hv⟩ := q
  exact X.retIN (by simp) rfl d26_35 (by decide) (by decide) ⟨_, rfl, rfl, vv, rfl, hv⟩
set_option maxRecDepth 65536 in
set_option maxHeartbeats 40000000 in
theorem ef_rmUU2 (m : MethodId) (a1 : Addr) (ch : Int32) : entryFrame m #[(.ref a1), (.int ch), (.int (0 : Int32)), (.int (2 : Int32))] 5 = mkF m 0 #[.val (.ref a1), .val (.int ch), .val (.int (0 : Int32)), .val (.int (2 : Int32)), .unset] [] := by first | (simp [entryFrame, mkF, argsToLocals, Value.category]; done) | (rfl)
set_option maxRecDepth 65536 in
set_option maxHeartbeats 40000000 in
theorem rmUU2 (l : Launch) (Z : State) (a0 : Array Value) (hw : ∀ d ∈ tables_1, d.before a0 Z = true) (a1 : Addr) (ch : Int32) (h0 : Heap) (O : Ext Z.heap h0) (SA : Sta Z Z.heap "java/lang/StringUTF16" "$assertionsDisabled" "Z" (.int 1)) (SH : Sta Z Z.heap "java/lang/StringUTF16" "HI_BYTE_SHIFT" "I" (.int 0)) (SL : Sta Z Z.heap "java/lang/StringUTF16" "LO_BYTE_SHIFT" "I" (.int 8)) (c0 c1 : Int32) (ka : ClassId) (V : Arv Z h0 a1 ka .byte (4 : Int32) [(.int (StrChars.lo8 c0)), (.int (StrChars.hi8 c0)), (.int (StrChars.lo8 c1)), (.int (StrChars.hi8 c1))] (.int 0)) (r_c0 : ¬ c0 < 0 ∧ ¬ (65535 : Int32) < c0) (r_c1 : ¬ c1 < 0 ∧ ¬ (65535 : Int32) < c1) :
    MN l Z (⟨"java/lang/StringUTF16", "indexOfCharUnsafe", "([BIII)I"⟩ : MethodName) jdk_52_method_48_code 5 (some .int) [] ({ frames := 1, cells := 0, slots := 0, locals := 20 } : Room) #[(.ref a1), (.int ch), (.int (0 : Int32)), (.int (2 : Int32))] h0 [] (RP h0 (fun w => ∃ v : Int32, w = .int v ∧ IX v ch [c0, c1])) := by
  refine MN.mk (a0 := a0) rfl rfl (plainFor_of_name pn1) O (fun m => ef_rmUU2 m a1 ch) ?_
  intro pg ev s m below meth cd T hh X
  subst hh
  refine X.iloadN (pc' := 1) d32_0 rfl rfl ?_
  refine X.istore (pc' := 3) #[.val (.ref a1), .val (.int ch), .val (.int (0 : Int32)), .val (.int (2 : Int32)), .val (.int (0 : Int32))] d32_1 rfl rfl ?_
  refine X.iload (pc' := 5) d32_3 rfl rfl ?_
  refine X.iloadN (pc' := 6) d32_5 rfl rfl ?_
  refine X.icN (pc' := 9) d32_6 (by decide) rfl ?_
  refine X.aloadN (pc' := 10) d32_9 rfl rfl rfl ?_
  refine X.iload (pc' := 12) d32_10 rfl rfl ?_
  refine X.callP (pc' := 15) (X.sStatic (wd106 hw) (wd107 hw) (wd76 hw) (wd108 hw) (by decide) rfl pd6 [(.ref a1), (.int (0 : Int32))] rfl rfl d32_12) (rmGet l Z a0 hw a1 (0 : Int32) _ X.old SA SH SL (0 : Int32) (by decide) _ _ _ V ⟨by decide, by decide⟩ ⟨by decide, by decide⟩ c0 r_c0 rfl rfl) (wd108 hw) (wd76 hw) (leB rfl) (leB rfl) (leB rfl) (leB rfl) rfl ?_
  intro T L v X q
  subst q
  refine X.iloadN (pc' := 16) d32_15 rfl rfl ?_
  by_cases e0 : c0 = ch
  · refine X.icN (pc' := 19) d32_16 ((teq e0).2) rfl ?_
    refine X.iload (pc' := 21) d32_19 rfl rfl ?_
    exact X.retIN (by simp) rfl d32_21 (by decide) (by decide) ⟨_, rfl, rfl, _, rfl, Or.inr ⟨by decide, by rw [← e0]; simp⟩⟩
  · refine X.icY (pc' := 22) d32_16 ((feq e0).2) (by decide) (by decide) ?_
    refine X.iinc (pc' := 25) #[.val (.ref a1), .val (.int ch), .val (.int (0 : Int32)), .val (.int (2 : Int32)), .val (.int (1 : Int32))] d32_22 rfl rfl rfl ?_
    refine X.goto (pc' := 3) d32_25 (by decide) (by decide) ?_
    refine X.iload (pc' := 5) d32_3 rfl rfl ?_
    refine X.iloadN (pc' := 6) d32_5 rfl rfl ?_
    refine X.icN (pc' := 9) d32_6 (by decide) rfl ?_
    refine X.aloadN (pc' := 10) d32_9 rfl rfl rfl ?_
    refine X.iload (pc' := 12) d32_10 rfl rfl ?_
    refine X.callP (pc' := 15) (X.sStatic (wd106 hw) (wd107 hw) (wd76 hw) (wd108 hw) (by decide) rfl pd6 [(.ref a1), (.int (1 : Int32))] rfl rfl d32_12) (rmGet l Z a0 hw a1 (1 : Int32) _ X.old SA SH SL (2 : Int32) (by decide) _ _ _ V ⟨by decide, by decide⟩ ⟨by decide, by decide⟩ c1 r_c1 rfl rfl) (wd108 hw) (wd76 hw) (leB rfl) (leB rfl) (leB rfl) (leB rfl) rfl ?_
    intro T L v X q
    subst q
    refine X.iloadN (pc' := 16) d32_15 rfl rfl ?_
    by_cases e1 : c1 = ch
    · refine X.icN (pc' := 19) d32_16 ((teq e1).2) rfl ?_
      refine X.iload (pc' := 21) d32_19 rfl rfl ?_
      exact X.retIN (by simp) rfl d32_21 (by decide) (by decide) ⟨_, rfl, rfl, _, rfl, Or.inr ⟨by decide, by rw [← e1]; simp⟩⟩
    · refine X.icY (pc' := 22) d32_16 ((feq e1).2) (by decide) (by decide) ?_
      refine X.iinc (pc' := 25) #[.val (.ref a1), .val (.int ch), .val (.int (0 : Int32)), .val (.int (2 : Int32)), .val (.int (2 : Int32))] d32_22 rfl rfl rfl ?_
      refine X.goto (pc' := 3) d32_25 (by decide) (by decide) ?_
      refine X.iload (pc' := 5) d32_3 rfl rfl ?_
      refine X.iloadN (pc' := 6) d32_5 rfl rfl ?_
      refine X.icY (pc' := 28) d32_6 (by decide) (by decide) (by decide) ?_
      refine X.iconst (pc' := 29) (-1 : Int32) d32_28 rfl rfl ?_
      exact X.retIN (by simp) rfl d32_29 (by decide) (by decide) ⟨_, rfl, rfl, _, rfl, Or.inl ⟨by decide, by simp; exact ⟨fun q => e0 q.symm, fun q => e1 q.symm⟩⟩⟩
set_option maxRecDepth 65536 in
set_option maxHeartbeats 40000000 in
theorem ef_rmUL2 (m : MethodId) (a1 : Addr) : entryFrame m #[(.ref a1)] 1 = mkF m 0 #[.val (.ref a1)] [] := by first | (simp [entryFrame, mkF, argsToLocals, Value.category]; done) | (rfl)
set_option maxRecDepth 65536 in
set_option maxHeartbeats 40000000 in
theorem rmUL2 (l : Launch) (Z : State) (a0 : Array Value) (hw : ∀ d ∈ tables_1, d.before a0 Z = true) (a1 : Addr) (h0 : Heap) (O : Ext Z.heap h0) (ka : ClassId) (vs : List Value) (V : Arv Z h0 a1 ka .byte (4 : Int32) vs (.int 0)) :
    MN l Z (⟨"java/lang/StringUTF16", "length", "([B)I"⟩ : MethodName) jdk_52_method_6_code 1 (some .int) [] ({ frames := 0, cells := 0, slots := 0, locals := 0 } : Room) #[(.ref a1)] h0 [] (RP h0 (fun w => w = .int (2 : Int32))) := by
  refine MN.mk (a0 := a0) rfl rfl (plainFor_of_name pn1) O (fun m => ef_rmUL2 m a1) ?_
  intro pg ev s m below meth cd T hh X
  subst hh
  refine X.aloadN (pc' := 1) d29_0 rfl rfl rfl ?_
  refine X.alen (pc' := 2) V d29_1 rfl ?_
  refine X.iconst (pc' := 3) (1 : Int32) d29_2 rfl rfl ?_
  refine X.ishr (pc' := 4) d29_3 rfl ?_
  rw [show (((4 : Int32) >>> ((1 : Int32) &&& 31)) : Int32) = (2 : Int32) from by decide]
  exact X.retIN (by simp) rfl d29_4 (by decide) (by decide) ⟨_, rfl, rfl, rfl⟩
set_option maxRecDepth 65536 in
set_option maxHeartbeats 40000000 in
theorem ef_rmUC2 (m : MethodId) (a1 : Addr) : entryFrame m #[(.int (0 : Int32)), (.int (2 : Int32)), (.ref a1)] 3 = mkF m 0 #[.val (.int (0 : Int32)), .val (.int (2 : Int32)), .val (.ref a1)] [] := by first | (simp [entryFrame, mkF, argsToLocals, Value.category]; done) | (rfl)
set_option maxRecDepth 65536 in
set_option maxHeartbeats 40000000 in
theorem rmUC2 (l : Launch) (Z : State) (a0 : Array Value) (hw : ∀ d ∈ tables_1, d.before a0 Z = true) (a1 : Addr) (h0 : Heap) (O : Ext Z.heap h0) (fm : Value) (rf : fm.isRef = true) (SF : Sta Z Z.heap "jdk/internal/util/Preconditions" "SIOOBE_FORMATTER" "Ljava/util/function/BiFunction;" fm) (ka : ClassId) (vs : List Value) (V : Arv Z h0 a1 ka .byte (4 : Int32) vs (.int 0)) :
    MN l Z (⟨"java/lang/StringUTF16", "checkBoundsBeginEnd", "(II[B)V"⟩ : MethodName) jdk_52_method_93_code 3 none [] ({ frames := 2, cells := 0, slots := 0, locals := 40 } : Room) #[(.int (0 : Int32)), (.int (2 : Int32)), (.ref a1)] h0 [] (RO h0) := by
  refine MN.mk (a0 := a0) rfl rfl (plainFor_of_name pn1) O (fun m => ef_rmUC2 m a1) ?_
  intro pg ev s m below meth cd T hh X
  subst hh
  refine X.iloadN (pc' := 1) d28_0 rfl rfl ?_
  refine X.iloadN (pc' := 2) d28_1 rfl rfl ?_
  refine X.aloadN (pc' := 3) d28_2 rfl rfl rfl ?_
  refine X.callP (pc' := 6) (X.sStatic (wd121 hw) (wd122 hw) (wd76 hw) (wd123 hw) (by decide) rfl pd12 [(.ref a1)] rfl rfl d28_3) (rmUL2 l Z a0 hw a1 _ X.old _ _ V) (wd123 hw) (wd76 hw) (leB rfl) (leB rfl) (leB rfl) (leB rfl) rfl ?_
  intro T L v X q
  subst q
  refine X.callO (pc' := 9) (X.sStatic (wd124 hw) (wd125 hw) (wd10 hw) (wd126 hw) (by decide) rfl pd13 [(.int (0 : Int32)), (.int (2 : Int32)), (.int (2 : Int32))] rfl rfl d28_6) (rmCBE l Z a0 hw (2 : Int32) _ X.old fm rf SF (by decide)) (wd126 hw) (wd10 hw) (leB rfl) (leB rfl) (leB rfl) (leB rfl) rfl ?_
  intro T L X
  exact X.retUN d28_9 (by decide) (by decide) ⟨rfl, rfl⟩
set_option maxRecDepth 65536 in
set_option maxHeartbeats 40000000 in
theorem ef_rmUK2 (m : MethodId) (a1 : Addr) (ch : Int32) : entryFrame m #[(.ref a1), (.int ch), (.int (0 : Int32)), (.int (2 : Int32))] 4 = mkF m 0 #[.val (.ref a1), .val (.int ch), .val (.int (0 : Int32)), .val (.int (2 : Int32))] [] := by first | (simp [entryFrame, mkF, argsToLocals, Value.category]; done) | (rfl)
set_option maxRecDepth 65536 in
set_option maxHeartbeats 40000000 in
theorem rmUK2 (l : Launch) (Z : State) (a0 : Array Value) (hw : ∀ d ∈ tables_1, d.before a0 Z = true) (a1 : Addr) (ch : Int32) (h0 : Heap) (O : Ext Z.heap h0) (fm : Value) (rf : fm.isRef = true) (SF : Sta Z Z.heap "jdk/internal/util/Preconditions" "SIOOBE_FORMATTER" "Ljava/util/function/BiFunction;" fm) (SA : Sta Z Z.heap "java/lang/StringUTF16" "$assertionsDisabled" "Z" (.int 1)) (SH : Sta Z Z.heap "java/lang/StringUTF16" "HI_BYTE_SHIFT" "I" (.int 0)) (SL : Sta Z Z.heap "java/lang/StringUTF16" "LO_BYTE_SHIFT" "I" (.int 8)) (c0 c1 : Int32) (ka : ClassId) (V : Arv Z h0 a1 ka .byte (4 : Int32) [(.int (StrChars.lo8 c0)), (.int (StrChars.hi8 c0)), (.int (StrChars.lo8 c1)), (.int (StrChars.hi8 c1))] (.int 0)) (r_c0 : ¬ c0 < 0 ∧ ¬ (65535 : Int32) < c0) (r_c1 : ¬ c1 < 0 ∧ ¬ (65535 : Int32) < c1) :
    MN l Z (⟨"java/lang/StringUTF16", "indexOfChar", "([BIII)I"⟩ : MethodName) jdk_52_method_47_code 4 (some .int) [] ({ frames := 3, cells := 0, slots := 0, locals := 60 } : Room) #[(.ref a1), (.int ch), (.int (0 : Int32)), (.int (2 : Int32))] h0 [] (RP h0 (fun w => ∃ v : Int32, w = .int v ∧ IX v ch [c0, c1])) := by
  refine MN.mk (a0 := a0) rfl rfl (plainFor_of_name pn1) O (fun m => ef_rmUK2 m a1 ch) ?_
  intro pg ev s m below meth cd T hh X
  subst hh
  refine X.iloadN (pc' := 1) d27_0 rfl rfl ?_
  refine X.iloadN (pc' := 2) d27_1 rfl rfl ?_
  refine X.aloadN (pc' := 3) d27_2 rfl rfl rfl ?_
  refine X.callO (pc' := 6) (X.sStatic (wd118 hw) (wd119 hw) (wd76 hw) (wd120 hw) (by decide) rfl pd14 [(.int (0 : Int32)), (.int (2 : Int32)), (.ref a1)] rfl rfl d27_3) (rmUC2 l Z a0 hw a1 _ X.old fm rf SF _ _ V) (wd120 hw) (wd76 hw) (leB rfl) (leB rfl) (leB rfl) (leB rfl) rfl ?_
  intro T L X
  refine X.aloadN (pc' := 7) d27_6 rfl rfl rfl ?_
  refine X.iloadN (pc' := 8) d27_7 rfl rfl ?_
  refine X.iloadN (pc' := 9) d27_8 rfl rfl ?_
  refine X.iloadN (pc' := 10) d27_9 rfl rfl ?_
  refine X.callP (pc' := 13) (X.sStatic (wd132 hw) (wd133 hw) (wd76 hw) (wd134 hw) (by decide) rfl pd11 [(.ref a1), (.int ch), (.int (0 : Int32)), (.int (2 : Int32))] rfl rfl d27_10) (rmUU2 l Z a0 hw a1 ch _ X.old SA SH SL c0 c1 _ V r_c0 r_c1) (wd134 hw) (wd76 hw) (leB rfl) (leB rfl) (leB rfl) (leB rfl) rfl ?_
  intro T L v X q
  obtain ⟨vv, rfl, hv⟩ := q
  exact X.retIN (by simp) rfl d27_13 (by decide) (by decide) ⟨_, rfl, rfl, vv, rfl, hv⟩
set_option maxRecDepth 65536 in
set_option maxHeartbeats 40000000 in
theorem ef_rmUI2 (m : MethodId) (a1 : Addr) (ch : Int32) : entryFrame m #[(.ref a1), (.int ch), (.int (0 : Int32)), (.int (2 : Int32))] 4 = mkF m 0 #[.val (.ref a1), .val (.int ch), .val (.int (0 : Int32)), .val (.int (2 : Int32))] [] := by first | (simp [entryFrame, mkF, argsToLocals, Value.category]; done) | (rfl)
set_option maxRecDepth 65536 in
set_option maxHeartbeats 40000000 in
theorem rmUI2 (l : Launch) (Z : State) (a0 : Array Value) (hw : ∀ d ∈ tables_1, d.before a0 Z = true) (a1 : Addr) (ch : Int32) (h0 : Heap) (O : Ext Z.heap h0) (fm : Value) (rf : fm.isRef = true) (SF : Sta Z Z.heap "jdk/internal/util/Preconditions" "SIOOBE_FORMATTER" "Ljava/util/function/BiFunction;" fm) (SA : Sta Z Z.heap "java/lang/StringUTF16" "$assertionsDisabled" "Z" (.int 1)) (SH : Sta Z Z.heap "java/lang/StringUTF16" "HI_BYTE_SHIFT" "I" (.int 0)) (SL : Sta Z Z.heap "java/lang/StringUTF16" "LO_BYTE_SHIFT" "I" (.int 8)) (c0 c1 : Int32) (ka : ClassId) (V : Arv Z h0 a1 ka .byte (4 : Int32) [(.int (StrChars.lo8 c0)), (.int (StrChars.hi8 c0)), (.int (StrChars.lo8 c1)), (.int (StrChars.hi8 c1))] (.int 0)) (r_c0 : ¬ c0 < 0 ∧ ¬ (65535 : Int32) < c0) (r_c1 : ¬ c1 < 0 ∧ ¬ (65535 : Int32) < c1) (hch : ch < (65536 : Int32)) :
    MN l Z (⟨"java/lang/StringUTF16", "indexOf", "([BIII)I"⟩ : MethodName) jdk_52_method_40_code 4 (some .int) [] ({ frames := 4, cells := 0, slots := 0, locals := 80 } : Room) #[(.ref a1), (.int ch), (.int (0 : Int32)), (.int (2 : Int32))] h0 [] (RP h0 (fun w => ∃ v : Int32, w = .int v ∧ IX v ch [c0, c1])) := by
  refine MN.mk (a0 := a0) rfl rfl (plainFor_of_name pn1) O (fun m => ef_rmUI2 m a1 ch) ?_
  intro pg ev s m below meth cd T hh X
  subst hh
  refine X.iloadN (pc' := 1) d26_0 rfl rfl ?_
  refine X.iconst (pc' := 2) (0 : Int32) d26_1 rfl rfl ?_
  refine X.callP (pc' := 5) (X.sStatic (wd112 hw) (wd68 hw) (wd69 hw) (wd70 hw) (by decide) rfl pd10 [(.int (0 : Int32)), (.int (0 : Int32))] rfl rfl d26_2) (rmMax l Z a0 hw _ X.old) (wd70 hw) (wd69 hw) (leB rfl) (leB rfl) (leB rfl) (leB rfl) rfl ?_
  intro T L v X q
  subst q
  refine X.istoreN (pc' := 6) #[.val (.ref a1), .val (.int ch), .val (.int (0 : Int32)), .val (.int (2 : Int32))] d26_5 rfl rfl ?_
  refine X.iloadN (pc' := 7) d26_6 rfl rfl ?_
  refine X.aloadN (pc' := 8) d26_7 rfl rfl rfl ?_
  refine X.alen (pc' := 9) V d26_8 rfl ?_
  refine X.iconst (pc' := 10) (1 : Int32) d26_9 rfl rfl ?_
  refine X.ishr (pc' := 11) d26_10 rfl ?_
  rw [show (((4 : Int32) >>> ((1 : Int32) &&& 31)) : Int32) = (2 : Int32) from by decide]
  refine X.callP (pc' := 14) (X.sStatic (wd113 hw) (wd72 hw) (wd69 hw) (wd73 hw) (by decide) rfl pd10 [(.int (2 : Int32)), (.int (2 : Int32))] rfl rfl d26_11) (rmMin l Z a0 hw (2 : Int32) _ X.old) (wd73 hw) (wd69 hw) (leB rfl) (leB rfl) (leB rfl) (leB rfl) rfl ?_
  intro T L v X q
  subst q
  refine X.istoreN (pc' := 15) #[.val (.ref a1), .val (.int ch), .val (.int (0 : Int32)), .val (.int (2 : Int32))] d26_14 rfl rfl ?_
  refine X.iloadN (pc' := 16) d26_15 rfl rfl ?_
  refine X.iloadN (pc' := 17) d26_16 rfl rfl ?_
  refine X.icY (pc' := 22) d26_17 (by decide) (by decide) (by decide) ?_
  refine X.iloadN (pc' := 23) d26_22 rfl rfl ?_
  refine X.ldcI (pc' := 25) (wd114 hw) d26_23 rfl ?_
  refine X.icN (pc' := 28) d26_25 ((tlt hch).2.1) rfl ?_
  refine X.aloadN (pc' := 29) d26_28 rfl rfl rfl ?_
  refine X.iloadN (pc' := 30) d26_29 rfl rfl ?_
  refine X.iloadN (pc' := 31) d26_30 rfl rfl ?_
  refine X.iloadN (pc' := 32) d26_31 rfl rfl ?_
  refine X.callP (pc' := 35) (X.sStatic (wd115 hw) (wd116 hw) (wd76 hw) (wd117 hw) (by decide) rfl pd11 [(.ref a1), (.int ch), (.int (0 : Int32)), (.int (2 : Int32))] rfl rfl d26_32) (rmUK2 l Z a0 hw a1 ch _ X.old fm rf SF SA SH SL c0 c1 _ V r_c0 r_c1) (wd117 hw) (wd76 hw) (leB rfl) (leB rfl) (leB rfl) (leB rfl) rfl ?_
  intro T L v X q
  obtain ⟨vv, rfl, hv⟩ := q
  exact X.retIN (by simp) rfl d26_35 (by decide) (by decide) ⟨_, rfl, rfl, vv, rfl, hv⟩
set_option maxRecDepth 65536 in
set_option maxHeartbeats 40000000 in
theorem ef_rmUU3 (m : MethodId) (a1 : Addr) (ch : Int32) : entryFrame m #[(.ref a1), (.int ch), (.int (0 : Int32)), (.int (3 : Int32))] 5 = mkF m 0 #[.val (.ref a1), .val (.int ch), .val (.int (0 : Int32)), .val (.int (3 : Int32)), .unset] [] := by first | (simp [entryFrame, mkF, argsToLocals, Value.category]; done) | (rfl)
set_option maxRecDepth 65536 in
set_option maxHeartbeats 40000000 in
theorem rmUU3 (l : Launch) (Z : State) (a0 : Array Value) (hw : ∀ d ∈ tables_1, d.before a0 Z = true) (a1 : Addr) (ch : Int32) (h0 : Heap) (O : Ext Z.heap h0) (SA : Sta Z Z.heap "java/lang/StringUTF16" "$assertionsDisabled" "Z" (.int 1)) (SH : Sta Z Z.heap "java/lang/StringUTF16" "HI_BYTE_SHIFT" "I" (.int 0)) (SL : Sta Z Z.heap "java/lang/StringUTF16" "LO_BYTE_SHIFT" "I" (.int 8)) (c0 c1 c2 : Int32) (ka : ClassId) (V : Arv Z h0 a1 ka .byte (6 : Int32) [(.int (StrChars.lo8 c0)), (.int (StrChars.hi8 c0)), (.int (StrChars.lo8 c1)), (.int (StrChars.hi8 c1)), (.int (StrChars.lo8 c2)), (.int (StrChars.hi8 c2))] (.int 0)) (r_c0 : ¬ c0 < 0 ∧ ¬ (65535 : Int32) < c0) (r_c1 : ¬ c1 < 0 ∧ ¬ (65535 : Int32) < c1) (r_c2 : ¬ c2 < 0 ∧ ¬ (65535 : Int32) < c2) :
    MN l Z (⟨"java/lang/StringUTF16", "indexOfCharUnsafe", "([BIII)I"⟩ : MethodName) jdk_52_method_48_code 5 (some .int) [] ({ frames := 1, cells := 0, slots := 0, locals := 20 } : Room) #[(.ref a1), (.int ch), (.int (0 : Int32)), (.int (3 : Int32))] h0 [] (RP h0 (fun w => ∃ v : Int32, w = .int v ∧ IX v ch [c0, c1, c2])) := by
  refine MN.mk (a0 := a0) rfl rfl (plainFor_of_name pn1) O (fun m => ef_rmUU3 m a1 ch) ?_
  intro pg ev s m below meth cd T hh X
  subst hh
  refine X.iloadN (pc' := 1) d32_0 rfl rfl ?_
  refine X.istore (pc' := 3) #[.val (.ref a1), .val (.int ch), .val (.int (0 : Int32)), .val (.int (3 : Int32)), .val (.int (0 : Int32))] d32_1 rfl rfl ?_
  refine X.iload (pc' := 5) d32_3 rfl rfl ?_
  refine X.iloadN (pc' := 6) d32_5 rfl rfl ?_
  refine X.icN (pc' := 9) d32_6 (by decide) rfl ?_
  refine X.aloadN (pc' := 10) d32_9 rfl rfl rfl ?_
  refine X.iload (pc' := 12) d32_10 rfl rfl ?_
  refine X.callP (pc' := 15) (X.sStatic (wd106 hw) (wd107 hw) (wd76 hw) (wd108 hw) (by decide) rfl pd6 [(.ref a1), (.int (0 : Int32))] rfl rfl d32_12) (rmGet l Z a0 hw a1 (0 : Int32) _ X.old SA SH SL (0 : Int32) (by decide) _ _ _ V ⟨by decide, by decide⟩ ⟨by decide, by decide⟩ c0 r_c0 rfl rfl) (wd108 hw) (wd76 hw) (leB rfl) (leB rfl) (leB rfl) (leB rfl) rfl ?_
  intro T L v X q
  subst q
  refine X.iloadN (pc' := 16) d32_15 rfl rfl ?_
  by_cases e0 : c0 = ch
  · refine X.icN (pc' := 19) d32_16 ((teq e0).2) rfl ?_
    refine X.iload (pc' := 21) d32_19 rfl rfl ?_
    exact X.retIN (by simp) rfl d32_21 (by decide) (by decide) ⟨_, rfl, rfl, _, rfl, Or.inr ⟨by decide, by rw [← e0]; simp⟩⟩
  · refine X.icY (pc' := 22) d32_16 ((feq e0).2) (by decide) (by decide) ?_
    refine X.iinc (pc' := 25) #[.val (.ref a1), .val (.int ch), .val (.int (0 : Int32)), .val (.int (3 : Int32)), .val (.int (1 : Int32))] d32_22 rfl rfl rfl ?_
    refine X.goto (pc' := 3) d32_25 (by decide) (by decide) ?_
    refine X.iload (pc' := 5) d32_3 rfl rfl ?_
    refine X.iloadN (pc' := 6) d32_5 rfl rfl ?_
    refine X.icN (pc' := 9) d32_6 (by decide) rfl ?_
    refine X.aloadN (pc' := 10) d32_9 rfl rfl rfl ?_
    refine X.iload (pc' := 12) d32_10 rfl rfl ?_
    refine X.callP (pc' := 15) (X.sStatic (wd106 hw) (wd107 hw) (wd76 hw) (wd108 hw) (by decide) rfl pd6 [(.ref a1), (.int (1 : Int32))] rfl rfl d32_12) (rmGet l Z a0 hw a1 (1 : Int32) _ X.old SA SH SL (2 : Int32) (by decide) _ _ _ V ⟨by decide, by decide⟩ ⟨by decide, by decide⟩ c1 r_c1 rfl rfl) (wd108 hw) (wd76 hw) (leB rfl) (leB rfl) (leB rfl) (leB rfl) rfl ?_
    intro T L v X q
    subst q
    refine X.iloadN (pc' := 16) d32_15 rfl rfl ?_
    by_cases e1 : c1 = ch
    · refine X.icN (pc' := 19) d32_16 ((teq e1).2) rfl ?_
      refine X.iload (pc' := 21) d32_19 rfl rfl ?_
      exact X.retIN (by simp) rfl d32_21 (by decide) (by decide) ⟨_, rfl, rfl, _, rfl, Or.inr ⟨by decide, by rw [← e1]; simp⟩⟩
    · refine X.icY (pc' := 22) d32_16 ((feq e1).2) (by decide) (by decide) ?_
      refine X.iinc (pc' := 25) #[.val (.ref a1), .val (.int ch), .val (.int (0 : Int32)), .val (.int (3 : Int32)), .val (.int (2 : Int32))] d32_22 rfl rfl rfl ?_
      refine X.goto (pc' := 3) d32_25 (by decide) (by decide) ?_
      refine X.iload (pc' := 5) d32_3 rfl rfl ?_
      refine X.iloadN (pc' := 6) d32_5 rfl rfl ?_
      refine X.icN (pc' := 9) d32_6 (by decide) rfl ?_
      refine X.aloadN (pc' := 10) d32_9 rfl rfl rfl ?_
      refine X.iload (pc' := 12) d32_10 rfl rfl ?_
      refine X.callP (pc' := 15) (X.sStatic (wd106 hw) (wd107 hw) (wd76 hw) (wd108 hw) (by decide) rfl pd6 [(.ref a1), (.int (2 : Int32))] rfl rfl d32_12) (rmGet l Z a0 hw a1 (2 : Int32) _ X.old SA SH SL (4 : Int32) (by decide) _ _ _ V ⟨by decide, by decide⟩ ⟨by decide, by decide⟩ c2 r_c2 rfl rfl) (wd108 hw) (wd76 hw) (leB rfl) (leB rfl) (leB rfl) (leB rfl) rfl ?_
      intro T L v X q
      subst q
      refine X.iloadN (pc' := 16) d32_15 rfl rfl ?_
      by_cases e2 : c2 = ch
      · refine X.icN (pc' := 19) d32_16 ((teq e2).2) rfl ?_
        refine X.iload (pc' := 21) d32_19 rfl rfl ?_
        exact X.retIN (by simp) rfl d32_21 (by decide) (by decide) ⟨_, rfl, rfl, _, rfl, Or.inr ⟨by decide, by rw [← e2]; simp⟩⟩
      · refine X.icY (pc' := 22) d32_16 ((feq e2).2) (by decide) (by decide) ?_
        refine X.iinc (pc' := 25) #[.val (.ref a1), .val (.int ch), .val (.int (0 : Int32)), .val (.int (3 : Int32)), .val (.int (3 : Int32))] d32_22 rfl rfl rfl ?_
        refine X.goto (pc' := 3) d32_25 (by decide) (by decide) ?_
        refine X.iload (pc' := 5) d32_3 rfl rfl ?_
        refine X.iloadN (pc' := 6) d32_5 rfl rfl ?_
        refine X.icY (pc' := 28) d32_6 (by decide) (by decide) (by decide) ?_
        refine X.iconst (pc' := 29) (-1 : Int32) d32_28 rfl rfl ?_
        exact X.retIN (by simp) rfl d32_29 (by decide) (by decide) ⟨_, rfl, rfl, _, rfl, Or.inl ⟨by decide, by simp; exact ⟨fun q => e0 q.symm, fun q => e1 q.symm, fun q => e2 q.symm⟩⟩⟩
set_option maxRecDepth 65536 in
set_option maxHeartbeats 40000000 in
theorem ef_rmUL3 (m : MethodId) (a1 : Addr) : entryFrame m #[(.ref a1)] 1 = mkF m 0 #[.val (.ref a1)] [] := by first | (simp [entryFrame, mkF, argsToLocals, Value.category]; done) | (rfl)
set_option maxRecDepth 65536 in
set_option maxHeartbeats 40000000 in
theorem rmUL3 (l : Launch) (Z : State) (a0 : Array Value) (hw : ∀ d ∈ tables_1, d.before a0 Z = true) (a1 : Addr) (h0 : Heap) (O : Ext Z.heap h0) (ka : ClassId) (vs : List Value) (V : Arv Z h0 a1 ka .byte (6 : Int32) vs (.int 0)) :
    MN l Z (⟨"java/lang/StringUTF16", "length", "([B)I"⟩ : MethodName) jdk_52_method_6_code 1 (some .int) [] ({ frames := 0, cells := 0, slots := 0, locals := 0 } : Room) #[(.ref a1)] h0 [] (RP h0 (fun w => w = .int (3 : Int32))) := by
  refine MN.mk (a0 := a0) rfl rfl (plainFor_of_name pn1) O (fun m => ef_rmUL3 m a1) ?_
  intro pg ev s m below meth cd T hh X
  subst hh
  refine X.aloadN (pc' := 1) d29_0 rfl rfl rfl ?_
  refine X.alen (pc' := 2) V d29_1 rfl ?_
  refine X.iconst (pc' := 3) (1 : Int32) d29_2 rfl rfl ?_
  refine X.ishr (pc' := 4) d29_3 rfl ?_
  rw [show (((6 : Int32) >>> ((1 : Int32) &&& 31)) : Int32) = (3 : Int32) from by decide]
  exact X.retIN (by simp) rfl d29_4 (by decide) (by decide) ⟨_, rfl, rfl, rfl⟩
set_option maxRecDepth 65536 in
set_option maxHeartbeats 40000000 in
theorem ef_rmUC3 (m : MethodId) (a1 : Addr) : entryFrame m #[(.int (0 : Int32)), (.int (3 : Int32)), (.ref a1)] 3 = mkF m 0 #[.val (.int (0 : Int32)), .val (.int (3 : Int32)), .val (.ref a1)] [] := by first | (simp [entryFrame, mkF, argsToLocals, Value.category]; done) | (rfl)
set_option maxRecDepth 65536 in
set_option maxHeartbeats 40000000 in
theorem rmUC3 (l : Launch) (Z : State) (a0 : Array Value) (hw : ∀ d ∈ tables_1, d.before a0 Z = true) (a1 : Addr) (h0 : Heap) (O : Ext Z.heap h0) (fm : Value) (rf : fm.isRef = true) (SF : Sta Z Z.heap "jdk/internal/util/Preconditions" "SIOOBE_FORMATTER" "Ljava/util/function/BiFunction;" fm) (ka : ClassId) (vs : List Value) (V : Arv Z h0 a1 ka .byte (6 : Int32) vs (.int 0)) :
    MN l Z (⟨"java/lang/StringUTF16", "checkBoundsBeginEnd", "(II[B)V"⟩ : MethodName) jdk_52_method_93_code 3 none [] ({ frames := 2, cells := 0, slots := 0, locals := 40 } : Room) #[(.int (0 : Int32)), (.int (3 : Int32)), (.ref a1)] h0 [] (RO h0) := by
  refine MN.mk (a0 := a0) rfl rfl (plainFor_of_name pn1) O (fun m => ef_rmUC3 m a1) ?_
  intro pg ev s m below meth cd T hh X
  subst hh
  refine X.iloadN (pc' := 1) d28_0 rfl rfl ?_
  refine X.iloadN (pc' := 2) d28_1 rfl rfl ?_
  refine X.aloadN (pc' := 3) d28_2 rfl rfl rfl ?_
  refine X.callP (pc' := 6) (X.sStatic (wd121 hw) (wd122 hw) (wd76 hw) (wd123 hw) (by decide) rfl pd12 [(.ref a1)] rfl rfl d28_3) (rmUL3 l Z a0 hw a1 _ X.old _ _ V) (wd123 hw) (wd76 hw) (leB rfl) (leB rfl) (leB rfl) (leB rfl) rfl ?_
  intro T L v X q
  subst q
  refine X.callO (pc' := 9) (X.sStatic (wd124 hw) (wd125 hw) (wd10 hw) (wd126 hw) (by decide) rfl pd13 [(.int (0 : Int32)), (.int (3 : Int32)), (.int (3 : Int32))] rfl rfl d28_6) (rmCBE l Z a0 hw (3 : Int32) _ X.old fm rf SF (by decide)) (wd126 hw) (wd10 hw) (leB rfl) (leB rfl) (leB rfl) (leB rfl) rfl ?_
  intro T L X
  exact X.retUN d28_9 (by decide) (by decide) ⟨rfl, rfl⟩
set_option maxRecDepth 65536 in
set_option maxHeartbeats 40000000 in
theorem ef_rmUK3 (m : MethodId) (a1 : Addr) (ch : Int32) : entryFrame m #[(.ref a1), (.int ch), (.int (0 : Int32)), (.int (3 : Int32))] 4 = mkF m 0 #[.val (.ref a1), .val (.int ch), .val (.int (0 : Int32)), .val (.int (3 : Int32))] [] := by first | (simp [entryFrame, mkF, argsToLocals, Value.category]; done) | (rfl)
set_option maxRecDepth 65536 in
set_option maxHeartbeats 40000000 in
theorem rmUK3 (l : Launch) (Z : State) (a0 : Array Value) (hw : ∀ d ∈ tables_1, d.before a0 Z = true) (a1 : Addr) (ch : Int32) (h0 : Heap) (O : Ext Z.heap h0) (fm : Value) (rf : fm.isRef = true) (SF : Sta Z Z.heap "jdk/internal/util/Preconditions" "SIOOBE_FORMATTER" "Ljava/util/function/BiFunction;" fm) (SA : Sta Z Z.heap "java/lang/StringUTF16" "$assertionsDisabled" "Z" (.int 1)) (SH : Sta Z Z.heap "java/lang/StringUTF16" "HI_BYTE_SHIFT" "I" (.int 0)) (SL : Sta Z Z.heap "java/lang/StringUTF16" "LO_BYTE_SHIFT" "I" (.int 8)) (c0 c1 c2 : Int32) (ka : ClassId) (V : Arv Z h0 a1 ka .byte (6 : Int32) [(.int (StrChars.lo8 c0)), (.int (StrChars.hi8 c0)), (.int (StrChars.lo8 c1)), (.int (StrChars.hi8 c1)), (.int (StrChars.lo8 c2)), (.int (StrChars.hi8 c2))] (.int 0)) (r_c0 : ¬ c0 < 0 ∧ ¬ (65535 : Int32) < c0) (r_c1 : ¬ c1 < 0 ∧ ¬ (65535 : Int32) < c1) (r_c2 : ¬ c2 < 0 ∧ ¬ (65535 : Int32) < c2) :
    MN l Z (⟨"java/lang/StringUTF16", "indexOfChar", "([BIII)I"⟩ : MethodName) jdk_52_method_47_code 4 (some .int) [] ({ frames := 3, cells := 0, slots := 0, locals := 60 } : Room) #[(.ref a1), (.int ch), (.int (0 : Int32)), (.int (3 : Int32))] h0 [] (RP h0 (fun w => ∃ v : Int32, w = .int v ∧ IX v ch [c0, c1, c2])) := by
  refine MN.mk (a0 := a0) rfl rfl (plainFor_of_name pn1) O (fun m => ef_rmUK3 m a1 ch) ?_
  intro pg ev s m below meth cd T hh X
  subst hh
  refine X.iloadN (pc' := 1) d27_0 rfl rfl ?_
  refine X.iloadN (pc' := 2) d27_1 rfl rfl ?_
  refine X.aloadN (pc' := 3) d27_2 rfl rfl rfl ?_
  refine X.callO (pc' := 6) (X.sStatic (wd118 hw) (wd119 hw) (wd76 hw) (wd120 hw) (by decide) rfl pd14 [(.int (0 : Int32)), (.int (3 : Int32)), (.ref a1)] rfl rfl d27_3) (rmUC3 l Z a0 hw a1 _ X.old fm rf SF _ _ V) (wd120 hw) (wd76 hw) (leB rfl) (leB rfl) (leB rfl) (leB rfl) rfl ?_
  intro T L X
  refine X.aloadN (pc' := 7) d27_6 rfl rfl rfl ?_
  refine X.iloadN (pc' := 8) d27_7 rfl rfl ?_
  refine X.iloadN (pc' := 9) d27_8 rfl rfl ?_
  refine X.iloadN (pc' := 10) d27_9 rfl rfl ?_
  refine X.callP (pc' := 13) (X.sStatic (wd132 hw) (wd133 hw) (wd76 hw) (wd134 hw) (by decide) rfl pd11 [(.ref a1), (.int ch), (.int (0 : Int32)), (.int (3 : Int32))] rfl rfl d27_10) (rmUU3 l Z a0 hw a1 ch _ X.old SA SH SL c0 c1 c2 _ V r_c0 r_c1 r_c2) (wd134 hw) (wd76 hw) (leB rfl) (leB rfl) (leB rfl) (leB rfl) rfl ?_
  intro T L v X q
  obtain ⟨vv, rfl, hv⟩ := q
  exact X.retIN (by simp) rfl d27_13 (by decide) (by decide) ⟨_, rfl, rfl, vv, rfl, hv⟩
set_option maxRecDepth 65536 in
set_option maxHeartbeats 40000000 in
theorem ef_rmUI3 (m : MethodId) (a1 : Addr) (ch : Int32) : entryFrame m #[(.ref a1), (.int ch), (.int (0 : Int32)), (.int (3 : Int32))] 4 = mkF m 0 #[.val (.ref a1), .val (.int ch), .val (.int (0 : Int32)), .val (.int (3 : Int32))] [] := by first | (simp [entryFrame, mkF, argsToLocals, Value.category]; done) | (rfl)
set_option maxRecDepth 65536 in
set_option maxHeartbeats 40000000 in
theorem rmUI3 (l : Launch) (Z : State) (a0 : Array Value) (hw : ∀ d ∈ tables_1, d.before a0 Z = true) (a1 : Addr) (ch : Int32) (h0 : Heap) (O : Ext Z.heap h0) (fm : Value) (rf : fm.isRef = true) (SF : Sta Z Z.heap "jdk/internal/util/Preconditions" "SIOOBE_FORMATTER" "Ljava/util/function/BiFunction;" fm) (SA : Sta Z Z.heap "java/lang/StringUTF16" "$assertionsDisabled" "Z" (.int 1)) (SH : Sta Z Z.heap "java/lang/StringUTF16" "HI_BYTE_SHIFT" "I" (.int 0)) (SL : Sta Z Z.heap "java/lang/StringUTF16" "LO_BYTE_SHIFT" "I" (.int 8)) (c0 c1 c2 : Int32) (ka : ClassId) (V : Arv Z h0 a1 ka .byte (6 : Int32) [(.int (StrChars.lo8 c0)), (.int (StrChars.hi8 c0)), (.int (StrChars.lo8 c1)), (.int (StrChars.hi8 c1)), (.int (StrChars.lo8 c2)), (.int (StrChars.hi8 c2))] (.int 0)) (r_c0 : ¬ c0 < 0 ∧ ¬ (65535 : Int32) < c0) (r_c1 : ¬ c1 < 0 ∧ ¬ (65535 : Int32) < c1) (r_c2 : ¬ c2 < 0 ∧ ¬ (65535 : Int32) < c2) (hch : ch < (65536 : Int32)) :
    MN l Z (⟨"java/lang/StringUTF16", "indexOf", "([BIII)I"⟩ : MethodName) jdk_52_method_40_code 4 (some .int) [] ({ frames := 4, cells := 0, slots := 0, locals := 80 } : Room) #[(.ref a1), (.int ch), (.int (0 : Int32)), (.int (3 : Int32))] h0 [] (RP h0 (fun w => ∃ v : Int32, w = .int v ∧ IX v ch [c0, c1, c2])) := by
  refine MN.mk (a0 := a0) rfl rfl (plainFor_of_name pn1) O (fun m => ef_rmUI3 m a1 ch) ?_
  intro pg ev s m below meth cd T hh X
  subst hh
  refine X.iloadN (pc' := 1) d26_0 rfl rfl ?_
  refine X.iconst (pc' := 2) (0 : Int32) d26_1 rfl rfl ?_
  refine X.callP (pc' := 5) (X.sStatic (wd112 hw) (wd68 hw) (wd69 hw) (wd70 hw) (by decide) rfl pd10 [(.int (0 : Int32)), (.int (0 : Int32))] rfl rfl d26_2) (rmMax l Z a0 hw _ X.old) (wd70 hw) (wd69 hw) (leB rfl) (leB rfl) (leB rfl) (leB rfl) rfl ?_
  intro T L v X q
  subst q
  refine X.istoreN (pc' := 6) #[.val (.ref a1), .val (.int ch), .val (.int (0 : Int32)), .val (.int (3 : Int32))] d26_5 rfl rfl ?_
  refine X.iloadN (pc' := 7) d26_6 rfl rfl ?_
  refine X.aloadN (pc' := 8) d26_7 rfl rfl rfl ?_
  refine X.alen (pc' := 9) V d26_8 rfl ?_
  refine X.iconst (pc' := 10) (1 : Int32) d26_9 rfl rfl ?_
  refine X.ishr (pc' := 11) d26_10 rfl ?_
  rw [show (((6 : Int32) >>> ((1 : Int32) &&& 31)) : Int32) = (3 : Int32) from by decide]
  refine X.callP (pc' := 14) (X.sStatic (wd113 hw) (wd72 hw) (wd69 hw) (wd73 hw) (by decide) rfl pd10 [(.int (3 : Int32)), (.int (3 : Int32))] rfl rfl d26_11) (rmMin l Z a0 hw (3 : Int32) _ X.old) (wd73 hw) (wd69 hw) (leB rfl) (leB rfl) (leB rfl) (leB rfl) rfl ?_
  intro T L v X q
  subst q
  refine X.istoreN (pc' := 15) #[.val (.ref a1), .val (.int ch), .val (.int (0 : Int32)), .val (.int (3 : Int32))] d26_14 rfl rfl ?_
  refine X.iloadN (pc' := 16) d26_15 rfl rfl ?_
  refine X.iloadN (pc' := 17) d26_16 rfl rfl ?_
  refine X.icY (pc' := 22) d26_17 (by decide) (by decide) (by decide) ?_
  refine X.iloadN (pc' := 23) d26_22 rfl rfl ?_
  refine X.ldcI (pc' := 25) (wd114 hw) d26_23 rfl ?_
  refine X.icN (pc' := 28) d26_25 ((tlt hch).2.1) rfl ?_
  refine X.aloadN (pc' := 29) d26_28 rfl rfl rfl ?_
  refine X.iloadN (pc' := 30) d26_29 rfl rfl ?_
  refine X.iloadN (pc' := 31) d26_30 rfl rfl ?_
  refine X.iloadN (pc' := 32) d26_31 rfl rfl ?_
  refine X.callP (pc' := 35) (X.sStatic (wd115 hw) (wd116 hw) (wd76 hw) (wd117 hw) (by decide) rfl pd11 [(.ref a1), (.int ch), (.int (0 : Int32)), (.int (3 : Int32))] rfl rfl d26_32) (rmUK3 l Z a0 hw a1 ch _ X.old fm rf SF SA SH SL c0 c1 c2 _ V r_c0 r_c1 r_c2) (wd117 hw) (wd76 hw) (leB rfl) (leB rfl) (leB rfl) (leB rfl) rfl ?_
  intro T L v X q
  obtain ⟨vv, rfl, hv⟩ := q
  exact X.retIN (by simp) rfl d26_35 (by decide) (by decide) ⟨_, rfl, rfl, vv, rfl, hv⟩
set_option maxRecDepth 65536 in
set_option maxHeartbeats 40000000 in
theorem ef_rmIxL0 (m : MethodId) (x : Addr) (ch : Int32) : entryFrame m #[(.ref x), (.int ch), (.int (0 : Int32))] 3 = mkF m 0 #[.val (.ref x), .val (.int ch), .val (.int (0 : Int32))] [] := by first | (simp [entryFrame, mkF, argsToLocals, Value.category]; done) | (rfl)
set_option maxRecDepth 65536 in
set_option maxHeartbeats 40000000 in
theorem rmIxL0 (l : Launch) (Z : State) (a0 : Array Value) (hw : ∀ d ∈ tables_1, d.before a0 Z = true) (x : Addr) (ch : Int32) (h0 : Heap) (O : Ext Z.heap h0) (z : Int32) (O2 : Sta Z Z.heap "java/lang/String" "COMPACT_STRINGS" "Z" (.int z)) (hz : ¬ z = 0) (fm : Value) (rf : fm.isRef = true) (SF : Sta Z Z.heap "jdk/internal/util/Preconditions" "SIOOBE_FORMATTER" "Ljava/util/function/BiFunction;" fm) (SA : Sta Z Z.heap "java/lang/StringUTF16" "$assertionsDisabled" "Z" (.int 1)) (SH : Sta Z Z.heap "java/lang/StringUTF16" "HI_BYTE_SHIFT" "I" (.int 0)) (SL : Sta Z Z.heap "java/lang/StringUTF16" "LO_BYTE_SHIFT" "I" (.int 8)) (t : Addr) (ka : ClassId) (E : Exa Z h0 x "java/lang/String") (FV : Fld Z h0 x "java/lang/String" "value" "[B" (.ref t)) (FC : Fld Z h0 x "java/lang/String" "coder" "B" (.int 0)) (V : Arv Z h0 t ka .byte (0 : Int32) [] (.int 0))  (rch : ¬ ch < 0 ∧ ¬ (255 : Int32) < ch) (hch : ch < (65536 : Int32)) (S : Str Z h0 x []) :
    MN l Z (⟨"java/lang/String", "indexOf", "(II)I"⟩ : MethodName) jdk_42_method_80_code 3 (some .int) [] ({ frames := 5, cells := 0, slots := 0, locals := 100 } : Room) #[(.ref x), (.int ch), (.int (0 : Int32))] h0 [] (RP h0 (fun w => ∃ v : Int32, w = .int v ∧ IX v ch [])) := by
  refine MN.mk (a0 := a0) rfl rfl (plainFor_of_name pn0) O (fun m => ef_rmIxL0 m x ch) ?_
  intro pg ev s m below meth cd T hh X
  subst hh
  have hwl : ∀ d ∈ StrChars.Road.wordsLen, d.before a0 Z = true := fun d hd => hw d ((by decide +kernel : ∀ d ∈ StrChars.Road.wordsLen, d ∈ tables_1) d hd)
  refine X.aloadN (pc' := 1) d8_0 rfl rfl rfl ?_
  refine X.callP (pc' := 4) (X.sVirtual (wd44 hw) (wd45 hw) (wd47 hw) (wd46 hw) (by decide) rfl pd15 E [] rfl rfl d8_1 (X.nf (wd37 hw) rfl)) (rmIsL0 l Z a0 hw x _ X.old z O2 hz FC) (wd48 hw) (wd10 hw) (leB rfl) (leB rfl) (leB rfl) (leB rfl) rfl ?_
  intro T L v X q
  subst q
  refine X.ifN (pc' := 7) d8_4 (by decide) rfl ?_
  refine X.aloadN (pc' := 8) d8_7 rfl rfl rfl ?_
  refine X.getF (pc' := 11) (wd28 hw) Via.refl FV d8_8 rfl ?_
  intro T X
  refine X.iloadN (pc' := 12) d8_11 rfl rfl ?_
  refine X.iloadN (pc' := 13) d8_12 rfl rfl ?_
  refine X.aloadN (pc' := 14) d8_13 rfl rfl rfl ?_
  refine X.lenStr (pc' := 17) (cs := []) (X.sVirtual (wd50 hw) (wd51 hw) (wd53 hw) (wd52 hw) (by decide) rfl pd16 E [] rfl rfl d8_14 (X.nf (wd37 hw) rfl)) hwl (wd9 hw) S O2 hz (leB rfl) (leB rfl) (leB rfl) (leB rfl) rfl ?_
  intro T X
  show Y.Ends _ _ _ _ (State.setTop _ (mkF _ 17 #[.val (.ref x), .val (.int ch), .val (.int (0 : Int32))] [(.int (0 : Int32)), (.int (0 : Int32)), (.int ch), (.ref t)]))
  refine X.callP (pc' := 20) (X.sStatic (wd60 hw) (wd61 hw) (wd62 hw) (wd63 hw) (by decide) rfl pd11 [(.ref t), (.int ch), (.int (0 : Int32)), (.int (0 : Int32))] rfl rfl d8_17) (rmLI0 l Z a0 hw t ch _ X.old  _ V  rch) (wd63 hw) (wd62 hw) (leB rfl) (leB rfl) (leB rfl) (leB rfl) rfl ?_
  intro T L v X q
  obtain ⟨vv, rfl, hv⟩ := q
  refine X.goto (pc' := 36) d8_20 (by decide) (by decide) ?_
  exact X.retIN (by simp) rfl d8_36 (by decide) (by decide) ⟨_, rfl, rfl, vv, rfl, hv⟩
set_option maxRecDepth 65536 in
set_option maxHeartbeats 40000000 in
theorem ef_rmIxL1 (m : MethodId) (x : Addr) (ch : Int32) : entryFrame m #[(.ref x), (.int ch), (.int (0 : Int32))] 3 = mkF m 0 #[.val (.ref x), .val (.int ch), .val (.int (0 : Int32))] [] := by first | (simp [entryFrame, mkF, argsToLocals, Value.category]; done) | (rfl)
set_option maxRecDepth 65536 in
set_option maxHeartbeats 40000000 in
theorem rmIxL1 (l : Launch) (Z : State) (a0 : Array Value) (hw : ∀ d ∈ tables_1, d.before a0 Z = true) (x : Addr) (ch : Int32) (h0 : Heap) (O : Ext Z.heap h0) (z : Int32) (O2 : Sta Z Z.heap "java/lang/String" "COMPACT_STRINGS" "Z" (.int z)) (hz : ¬ z = 0) (fm : Value) (rf : fm.isRef = true) (SF : Sta Z Z.heap "jdk/internal/util/Preconditions" "SIOOBE_FORMATTER" "Ljava/util/function/BiFunction;" fm) (SA : Sta Z Z.heap "java/lang/StringUTF16" "$assertionsDisabled" "Z" (.int 1)) (SH : Sta Z Z.heap "java/lang/StringUTF16" "HI_BYTE_SHIFT" "I" (.int 0)) (SL : Sta Z Z.heap "java/lang/StringUTF16" "LO_BYTE_SHIFT" "I" (.int 8)) (t : Addr) (ka : ClassId) (c0 : Int32) (E : Exa Z h0 x "java/lang/String") (FV : Fld Z h0 x "java/lang/String" "value" "[B" (.ref t)) (FC : Fld Z h0 x "java/lang/String" "coder" "B" (.int 0)) (V : Arv Z h0 t ka .byte (1 : Int32) [(.int (StrChars.lo8 c0))] (.int 0)) (r_c0 : ¬ c0 < 0 ∧ ¬ (255 : Int32) < c0) (rch : ¬ ch < 0 ∧ ¬ (255 : Int32) < ch) (hch : ch < (65536 : Int32)) (S : Str Z h0 x [c0]) :
    MN l Z (⟨"java/lang/String", "indexOf", "(II)I"⟩ : MethodName) jdk_42_method_80_code 3 (some .int) [] ({ frames := 5, cells := 0, slots := 0, locals := 100 } : Room) #[(.ref x), (.int ch), (.int (0 : Int32))] h0 [] (RP h0 (fun w => ∃ v : Int32, w = .int v ∧ IX v ch [c0])) := by
  refine MN.mk (a0 := a0) rfl rfl (plainFor_of_name pn0) O (fun m => ef_rmIxL1 m x ch) ?_
  intro pg ev s m below meth cd T hh X
  subst hh
  have hwl : ∀ d ∈ StrChars.Road.wordsLen, d.before a0 Z = true := fun d hd => hw d ((by decide +kernel : ∀ d ∈ StrChars.Road.wordsLen, d ∈ tables_1) d hd)
  refine X.aloadN (pc' := 1) d8_0 rfl rfl rfl ?_
  refine X.callP (pc' := 4) (X.sVirtual (wd44 hw) (wd45 hw) (wd47 hw) (wd46 hw) (by decide) rfl pd15 E [] rfl rfl d8_1 (X.nf (wd37 hw) rfl)) (rmIsL0 l Z a0 hw x _ X.old z O2 hz FC) (wd48 hw) (wd10 hw) (leB rfl) (leB rfl) (leB rfl) (leB rfl) rfl ?_
  intro T L v X q
  subst q
  refine X.ifN (pc' := 7) d8_4 (by decide) rfl ?_
  refine X.aloadN (pc' := 8) d8_7 rfl rfl rfl ?_
  refine X.getF (pc' := 11) (wd28 hw) Via.refl FV d8_8 rfl ?_
  intro T X
  refine X.iloadN (pc' := 12) d8_11 rfl rfl ?_
  refine X.iloadN (pc' := 13) d8_12 rfl rfl ?_
  refine X.aloadN (pc' := 14) d8_13 rfl rfl rfl ?_
  refine X.lenStr (pc' := 17) (cs := [c0]) (X.sVirtual (wd50 hw) (wd51 hw) (wd53 hw) (wd52 hw) (by decide) rfl pd16 E [] rfl rfl d8_14 (X.nf (wd37 hw) rfl)) hwl (wd9 hw) S O2 hz (leB rfl) (leB rfl) (leB rfl) (leB rfl) rfl ?_
  intro T X
  show Y.Ends _ _ _ _ (State.setTop _ (mkF _ 17 #[.val (.ref x), .val (.int ch), .val (.int (0 : Int32))] [(.int (1 : Int32)), (.int (0 : Int32)), (.int ch), (.ref t)]))
  refine X.callP (pc' := 20) (X.sStatic (wd60 hw) (wd61 hw) (wd62 hw) (wd63 hw) (by decide) rfl pd11 [(.ref t), (.int ch), (.int (0 : Int32)), (.int (1 : Int32))] rfl rfl d8_17) (rmLI1 l Z a0 hw t ch _ X.old c0 _ V r_c0 rch) (wd63 hw) (wd62 hw) (leB rfl) (leB rfl) (leB rfl) (leB rfl) rfl ?_
  intro T L v X q
  obtain ⟨vv, rfl, hv⟩ := q
  refine X.goto (pc' := 36) d8_20 (by decide) (by decide) ?_
  exact X.retIN (by simp) rfl d8_36 (by decide) (by decide) ⟨_, rfl, rfl, vv, rfl, hv⟩
set_option maxRecDepth 65536 in
set_option maxHeartbeats 40000000 in
theorem ef_rmIxL2 (m : MethodId) (x : Addr) (ch : Int32) : entryFrame m #[(.ref x), (.int ch), (.int (0 : Int32))] 3 = mkF m 0 #[.val (.ref x), .val (.int ch), .val (.int (0 : Int32))] [] := by first | (simp [entryFrame, mkF, argsToLocals, Value.category]; done) | (rfl)
set_option maxRecDepth 65536 in
set_option maxHeartbeats 40000000 in
theorem rmIxL2 (l : Launch) (Z : State) (a0 : Array Value) (hw : ∀ d ∈ tables_1, d.before a0 Z = true) (x : Addr) (ch : Int32) (h0 : Heap) (O : Ext Z.heap h0) (z : Int32) (O2 : Sta Z Z.heap "java/lang/String" "COMPACT_STRINGS" "Z" (.int z)) (hz : ¬ z = 0) (fm : Value) (rf : fm.isRef = true) (SF : Sta Z Z.heap "jdk/internal/util/Preconditions" "SIOOBE_FORMATTER" "Ljava/util/function/BiFunction;" fm) (SA : Sta Z Z.heap "java/lang/StringUTF16" "$assertionsDisabled" "Z" (.int 1)) (SH : Sta Z Z.heap "java/lang/StringUTF16" "HI_BYTE_SHIFT" "I" (.int 0)) (SL : Sta Z Z.heap "java/lang/StringUTF16" "LO_BYTE_SHIFT" "I" (.int 8)) (t : Addr) (ka : ClassId) (c0 c1 : Int32) (E : Exa Z h0 x "java/lang/String") (FV : Fld Z h0 x "java/lang/String" "value" "[B" (.ref t)) (FC : Fld Z h0 x "java/lang/String" "coder" "B" (.int 0)) (V : Arv Z h0 t ka .byte (2 : Int32) [(.int (StrChars.lo8 c0)), (.int (StrChars.lo8 c1))] (.int 0)) (r_c0 : ¬ c0 < 0 ∧ ¬ (255 : Int32) < c0) (r_c1 : ¬ c1 < 0 ∧ ¬ (255 : Int32) < c1) (rch : ¬ ch < 0 ∧ ¬ (255 : Int32) < ch) (hch : ch < (65536 : Int32)) (S : Str Z h0 x [c0, c1]) :
    MN l Z (⟨"java/lang/String", "indexOf", "(II)I"⟩ : MethodName) jdk_42_method_80_code 3 (some .int) [] ({ frames := 5, cells := 0, slots := 0, locals := 100 } : Room) #[(.ref x), (.int ch), (.int (0 : Int32))] h0 [] (RP h0 (fun w => ∃ v : Int32, w = .int v ∧ IX v ch [c0, c1])) := by
  refine MN.mk (a0 := a0) rfl rfl (plainFor_of_name pn0) O (fun m => ef_rmIxL2 m x ch) ?_
  intro pg ev s m below meth cd T hh X
  subst hh
  have hwl : ∀ d ∈ StrChars.Road.wordsLen, d.before a0 Z = true := fun d hd => hw d ((by decide +kernel : ∀ d ∈ StrChars.Road.wordsLen, d ∈ tables_1) d hd)
  refine X.aloadN (pc' := 1) d8_0 rfl rfl rfl ?_
  refine X.callP (pc' := 4) (X.sVirtual (wd44 hw) (wd45 hw) (wd47 hw) (wd46 hw) (by decide) rfl pd15 E [] rfl rfl d8_1 (X.nf (wd37 hw) rfl)) (rmIsL0 l Z a0 hw x _ X.old z O2 hz FC) (wd48 hw) (wd10 hw) (leB rfl) (leB rfl) (leB rfl) (leB rfl) rfl ?_
  intro T L v X q
  subst q
  refine X.ifN (pc' := 7) d8_4 (by decide) rfl ?_
  refine X.aloadN (pc' := 8) d8_7 rfl rfl rfl ?_
  refine X.getF (pc' := 11) (wd28 hw) Via.refl FV d8_8 rfl ?_
  intro T X
  refine X.iloadN (pc' := 12) d8_11 rfl rfl ?_
  refine X.iloadN (pc' := 13) d8_12 rfl rfl ?_
  refine X.aloadN (pc' := 14) d8_13 rfl rfl rfl ?_
  refine X.lenStr (pc' := 17) (cs := [c0, c1]) (X.sVirtual (wd50 hw) (wd51 hw) (wd53 hw) (wd52 hw) (by decide) rfl pd16 E [] rfl rfl d8_14 (X.nf (wd37 hw) rfl)) hwl (wd9 hw) S O2 hz (leB rfl) (leB rfl) (leB rfl) (leB rfl) rfl ?_
  intro T X
  show Y.Ends _ _ _ _ (State.setTop _ (mkF _ 17 #[.val (.ref x), .val (.int ch), .val (.int (0 : Int32))] [(.int (2 : Int32)), (.int (0 : Int32)), (.int ch), (.ref t)]))
  refine X.callP (pc' := 20) (X.sStatic (wd60 hw) (wd61 hw) (wd62 hw) (wd63 hw) (by decide) rfl pd11 [(.ref t), (.int ch), (.int (0 : Int32)), (.int (2 : Int32))] rfl rfl d8_17) (rmLI2 l Z a0 hw t ch _ X.old c0 c1 _ V r_c0 r_c1 rch) (wd63 hw) (wd62 hw) (leB rfl) (leB rfl) (leB rfl) (leB rfl) rfl ?_
  intro T L v X q
  obtain ⟨vv, rfl, hv⟩ := q
  refine X.goto (pc' := 36) d8_20 (by decide) (by decide) ?_
  exact X.retIN (by simp) rfl d8_36 (by decide) (by decide) ⟨_, rfl, rfl, vv, rfl, hv⟩
set_option maxRecDepth 65536 in
set_option maxHeartbeats 40000000 in
theorem ef_rmIxL3 (m : MethodId) (x : Addr) (ch : Int32) : entryFrame m #[(.ref x), (.int ch), (.int (0 : Int32))] 3 = mkF m 0 #[.val (.ref x), .val (.int ch), .val (.int (0 : Int32))] [] := by first | (simp [entryFrame, mkF, argsToLocals, Value.category]; done) | (rfl)
set_option maxRecDepth 65536 in
set_option maxHeartbeats 40000000 in
theorem rmIxL3 (l : Launch) (Z : State) (a0 : Array Value) (hw : ∀ d ∈ tables_1, d.before a0 Z = true) (x : Addr) (ch : Int32) (h0 : Heap) (O : Ext Z.heap h0) (z : Int32) (O2 : Sta Z Z.heap "java/lang/String" "COMPACT_STRINGS" "Z" (.int z)) (hz : ¬ z = 0) (fm : Value) (rf : fm.isRef = true) (SF : Sta Z Z.heap "jdk/internal/util/Preconditions" "SIOOBE_FORMATTER" "Ljava/util/function/BiFunction;" fm) (SA : Sta Z Z.heap "java/lang/StringUTF16" "$assertionsDisabled" "Z" (.int 1)) (SH : Sta Z Z.heap "java/lang/StringUTF16" "HI_BYTE_SHIFT" "I" (.int 0)) (SL : Sta Z Z.heap "java/lang/StringUTF16" "LO_BYTE_SHIFT" "I" (.int 8)) (t : Addr) (ka : ClassId) (c0 c1 c2 : Int32) (E : Exa Z h0 x "java/lang/String") (FV : Fld Z h0 x "java/lang/String" "value" "[B" (.ref t)) (FC : Fld Z h0 x "java/lang/String" "coder" "B" (.int 0)) (V : Arv Z h0 t ka .byte (3 : Int32) [(.int (StrChars.lo8 c0)), (.int (StrChars.lo8 c1)), (.int (StrChars.lo8 c2))] (.int 0)) (r_c0 : ¬ c0 < 0 ∧ ¬ (255 : Int32) < c0) (r_c1 : ¬ c1 < 0 ∧ ¬ (255 : Int32) < c1) (r_c2 : ¬ c2 < 0 ∧ ¬ (255 : Int32) < c2) (rch : ¬ ch < 0 ∧ ¬ (255 : Int32) < ch) (hch : ch < (65536 : Int32)) (S : Str Z h0 x [c0, c1, c2]) :
    MN l Z (⟨"java/lang/String", "indexOf", "(II)I"⟩ : MethodName) jdk_42_method_80_code 3 (some .int) [] ({ frames := 5, cells := 0, slots := 0, locals := 100 } : Room) #[(.ref x), (.int ch), (.int (0 : Int32))] h0 [] (RP h0 (fun w => ∃ v : Int32, w = .int v ∧ IX v ch [c0, c1, c2])) := by
  refine MN.mk (a0 := a0) rfl rfl (plainFor_of_name pn0) O (fun m => ef_rmIxL3 m x ch) ?_
  intro pg ev s m below meth cd T hh X
  subst hh
  have hwl : ∀ d ∈ StrChars.Road.wordsLen, d.before a0 Z = true := fun d hd => hw d ((by decide +kernel : ∀ d ∈ StrChars.Road.wordsLen, d ∈ tables_1) d hd)
  refine X.aloadN (pc' := 1) d8_0 rfl rfl rfl ?_
  refine X.callP (pc' := 4) (X.sVirtual (wd44 hw) (wd45 hw) (wd47 hw) (wd46 hw) (by decide) rfl pd15 E [] rfl rfl d8_1 (X.nf (wd37 hw) rfl)) (rmIsL0 l Z a0 hw x _ X.old z O2 hz FC) (wd48 hw) (wd10 hw) (leB rfl) (leB rfl) (leB rfl) (leB rfl) rfl ?_
  intro T L v X q
  subst q
  refine X.ifN (pc' := 7) d8_4 (by decide) rfl ?_
  refine X.aloadN (pc' := 8) d8_7 rfl rfl rfl ?_
  refine X.getF (pc' := 11) (wd28 hw) Via.refl FV d8_8 rfl ?_
  intro T X
  refine X.iloadN (pc' := 12) d8_11 rfl rfl ?_
  refine X.iloadN (pc' := 13) d8_12 rfl rfl ?_
  refine X.aloadN (pc' := 14) d8_13 rfl rfl rfl ?_
  refine X.lenStr (pc' := 17) (cs := [c0, c1, c2]) (X.sVirtual (wd50 hw) (wd51 hw) (wd53 hw) (wd52 hw) (by decide) rfl pd16 E [] rfl rfl d8_14 (X.nf (wd37 hw) rfl)) hwl (wd9 hw) S O2 hz (leB rfl) (leB rfl) (leB rfl) (leB rfl) rfl ?_
  intro T X
  show Y.Ends _ _ _ _ (State.setTop _ (mkF _ 17 #[.val (.ref x), .val (.int ch), .val (.int (0 : Int32))] [(.int (3 : Int32)), (.int (0 : Int32)), (.int ch), (.ref t)]))
  refine X.callP (pc' := 20) (X.sStatic (wd60 hw) (wd61 hw) (wd62 hw) (wd63 hw) (by decide) rfl pd11 [(.ref t), (.int ch), (.int (0 : Int32)), (.int (3 : Int32))] rfl rfl d8_17) (rmLI3 l Z a0 hw t ch _ X.old c0 c1 c2 _ V r_c0 r_c1 r_c2 rch) (wd63 hw) (wd62 hw) (leB rfl) (leB rfl) (leB rfl) (leB rfl) rfl ?_
  intro T L v X q
  obtain ⟨vv, rfl, hv⟩ := q
  refine X.goto (pc' := 36) d8_20 (by decide) (by decide) ?_
  exact X.retIN (by simp) rfl d8_36 (by decide) (by decide) ⟨_, rfl, rfl, vv, rfl, hv⟩
set_option maxRecDepth 65536 in
set_option maxHeartbeats 40000000 in
theorem ef_rmIxU1 (m : MethodId) (x : Addr) (ch : Int32) : entryFrame m #[(.ref x), (.int ch), (.int (0 : Int32))] 3 = mkF m 0 #[.val (.ref x), .val (.int ch), .val (.int (0 : Int32))] [] := by first | (simp [entryFrame, mkF, argsToLocals, Value.category]; done) | (rfl)
set_option maxRecDepth 65536 in
set_option maxHeartbeats 40000000 in
theorem rmIxU1 (l : Launch) (Z : State) (a0 : Array Value) (hw : ∀ d ∈ tables_1, d.before a0 Z = true) (x : Addr) (ch : Int32) (h0 : Heap) (O : Ext Z.heap h0) (z : Int32) (O2 : Sta Z Z.heap "java/lang/String" "COMPACT_STRINGS" "Z" (.int z)) (hz : ¬ z = 0) (fm : Value) (rf : fm.isRef = true) (SF : Sta Z Z.heap "jdk/internal/util/Preconditions" "SIOOBE_FORMATTER" "Ljava/util/function/BiFunction;" fm) (SA : Sta Z Z.heap "java/lang/StringUTF16" "$assertionsDisabled" "Z" (.int 1)) (SH : Sta Z Z.heap "java/lang/StringUTF16" "HI_BYTE_SHIFT" "I" (.int 0)) (SL : Sta Z Z.heap "java/lang/StringUTF16" "LO_BYTE_SHIFT" "I" (.int 8)) (t : Addr) (ka : ClassId) (c0 : Int32) (E : Exa Z h0 x "java/lang/String") (FV : Fld Z h0 x "java/lang/String" "value" "[B" (.ref t)) (FC : Fld Z h0 x "java/lang/String" "coder" "B" (.int 1)) (V : Arv Z h0 t ka .byte (2 : Int32) [(.int (StrChars.lo8 c0)), (.int (StrChars.hi8 c0))] (.int 0)) (r_c0 : ¬ c0 < 0 ∧ ¬ (65535 : Int32) < c0) (rch : ¬ ch < 0 ∧ ¬ (255 : Int32) < ch) (hch : ch < (65536 : Int32)) (S : Str Z h0 x [c0]) :
    MN l Z (⟨"java/lang/String", "indexOf", "(II)I"⟩ : MethodName) jdk_42_method_80_code 3 (some .int) [] ({ frames := 5, cells := 0, slots := 0, locals := 100 } : Room) #[(.ref x), (.int ch), (.int (0 : Int32))] h0 [] (RP h0 (fun w => ∃ v : Int32, w = .int v ∧ IX v ch [c0])) := by
  refine MN.mk (a0 := a0) rfl rfl (plainFor_of_name pn0) O (fun m => ef_rmIxU1 m x ch) ?_
  intro pg ev s m below meth cd T hh X
  subst hh
  have hwl : ∀ d ∈ StrChars.Road.wordsLen, d.before a0 Z = true := fun d hd => hw d ((by decide +kernel : ∀ d ∈ StrChars.Road.wordsLen, d ∈ tables_1) d hd)
  refine X.aloadN (pc' := 1) d8_0 rfl rfl rfl ?_
  refine X.callP (pc' := 4) (X.sVirtual (wd44 hw) (wd45 hw) (wd47 hw) (wd46 hw) (by decide) rfl pd15 E [] rfl rfl d8_1 (X.nf (wd37 hw) rfl)) (rmIsL1 l Z a0 hw x _ X.old z O2 hz FC) (wd48 hw) (wd10 hw) (leB rfl) (leB rfl) (leB rfl) (leB rfl) rfl ?_
  intro T L v X q
  subst q
  refine X.ifY (pc' := 23) d8_4 (by decide) (by decide) (by decide) ?_
  refine X.aloadN (pc' := 24) d8_23 rfl rfl rfl ?_
  refine X.getF (pc' := 27) (wd28 hw) Via.refl FV d8_24 rfl ?_
  intro T X
  refine X.iloadN (pc' := 28) d8_27 rfl rfl ?_
  refine X.iloadN (pc' := 29) d8_28 rfl rfl ?_
  refine X.aloadN (pc' := 30) d8_29 rfl rfl rfl ?_
  refine X.lenStr (pc' := 33) (cs := [c0]) (X.sVirtual (wd50 hw) (wd51 hw) (wd53 hw) (wd52 hw) (by decide) rfl pd16 E [] rfl rfl d8_30 (X.nf (wd37 hw) rfl)) hwl (wd9 hw) S O2 hz (leB rfl) (leB rfl) (leB rfl) (leB rfl) rfl ?_
  intro T X
  show Y.Ends _ _ _ _ (State.setTop _ (mkF _ 33 #[.val (.ref x), .val (.int ch), .val (.int (0 : Int32))] [(.int (1 : Int32)), (.int (0 : Int32)), (.int ch), (.ref t)]))
  refine X.callP (pc' := 36) (X.sStatic (wd109 hw) (wd110 hw) (wd76 hw) (wd111 hw) (by decide) rfl pd11 [(.ref t), (.int ch), (.int (0 : Int32)), (.int (1 : Int32))] rfl rfl d8_33) (rmUI1 l Z a0 hw t ch _ X.old fm rf SF SA SH SL c0 _ V r_c0 hch) (wd111 hw) (wd76 hw) (leB rfl) (leB rfl) (leB rfl) (leB rfl) rfl ?_
  intro T L v X q
  obtain ⟨vv, rfl, hv⟩ := q
  exact X.retIN (by simp) rfl d8_36 (by decide) (by decide) ⟨_, rfl, rfl, vv, rfl, hv⟩
set_option maxRecDepth 65536 in
set_option maxHeartbeats 40000000 in
theorem ef_rmIxU2 (m : MethodId) (x : Addr) (ch : Int32) : entryFrame m #[(.ref x), (.int ch), (.int (0 : Int32))] 3 = mkF m 0 #[.val (.ref x), .val (.int ch), .val (.int (0 : Int32))] [] := by first | (simp [entryFrame, mkF, argsToLocals, Value.category]; done) | (rfl)
set_option maxRecDepth 65536 in
set_option maxHeartbeats 40000000 in
theorem rmIxU2 (l : Launch) (Z : State) (a0 : Array Value) (hw : ∀ d ∈ tables_1, d.before a0 Z = true) (x : Addr) (ch : Int32) (h0 : Heap) (O : Ext Z.heap h0) (z : Int32) (O2 : Sta Z Z.heap "java/lang/String" "COMPACT_STRINGS" "Z" (.int z)) (hz : ¬ z = 0) (fm : Value) (rf : fm.isRef = true) (SF : Sta Z Z.heap "jdk/internal/util/Preconditions" "SIOOBE_FORMATTER" "Ljava/util/function/BiFunction;" fm) (SA : Sta Z Z.heap "java/lang/StringUTF16" "$assertionsDisabled" "Z" (.int 1)) (SH : Sta Z Z.heap "java/lang/StringUTF16" "HI_BYTE_SHIFT" "I" (.int 0)) (SL : Sta Z Z.heap "java/lang/StringUTF16" "LO_BYTE_SHIFT" "I" (.int 8)) (t : Addr) (ka : ClassId) (c0 c1 : Int32) (E : Exa Z h0 x "java/lang/String") (FV : Fld Z h0 x "java/lang/String" "value" "[B" (.ref t)) (FC : Fld Z h0 x "java/lang/String" "coder" "B" (.int 1)) (V : Arv Z h0 t ka .byte (4 : Int32) [(.int (StrChars.lo8 c0)), (.int (StrChars.hi8 c0)), (.int (StrChars.lo8 c1)), (.int (StrChars.hi8 c1))] (.int 0)) (r_c0 : ¬ c0 < 0 ∧ ¬ (65535 : Int32) < c0) (r_c1 : ¬ c1 < 0 ∧ ¬ (65535 : Int32) < c1) (rch : ¬ ch < 0 ∧ ¬ (255 : Int32) < ch) (hch : ch < (65536 : Int32)) (S : Str Z h0 x [c0, c1]) :
    MN l Z (⟨"java/lang/String", "indexOf", "(II)I"⟩ : MethodName) jdk_42_method_80_code 3 (some .int) [] ({ frames := 5, cells := 0, slots := 0, locals := 100 } : Room) #[(.ref x), (.int ch), (.int (0 : Int32))] h0 [] (RP h0 (fun w => ∃ v : Int32, w = .int v ∧ IX v ch [c0, c1])) := by
  refine MN.mk (a0 := a0) rfl rfl (plainFor_of_name pn0) O (fun m => ef_rmIxU2 m x ch) ?_
  intro pg ev s m below meth cd T hh X
  subst hh
  have hwl : ∀ d ∈ StrChars.Road.wordsLen, d.before a0 Z = true := fun d hd => hw d ((by decide +kernel : ∀ d ∈ StrChars.Road.wordsLen, d ∈ tables_1) d hd)
  refine X.aloadN (pc' := 1) d8_0 rfl rfl rfl ?_
  refine X.callP (pc' := 4) (X.sVirtual (wd44 hw) (wd45 hw) (wd47 hw) (wd46 hw) (by decide) rfl pd15 E [] rfl rfl d8_1 (X.nf (wd37 hw) rfl)) (rmIsL1 l Z a0 hw x _ X.old z O2 hz FC) (wd48 hw) (wd10 hw) (leB rfl) (leB rfl) (leB rfl) (leB rfl) rfl ?_
  intro T L v X q
  subst q
  refine X.ifY (pc' := 23) d8_4 (by decide) (by decide) (by decide) ?_
  refine X.aloadN (pc' := 24) d8_23 rfl rfl rfl ?_
  refine X.getF (pc' := 27) (wd28 hw) Via.refl FV d8_24 rfl ?_
  intro T X
  refine X.iloadN (pc' := 28) d8_27 rfl rfl ?_
  refine X.iloadN (pc' := 29) d8_28 rfl rfl ?_
  refine X.aloadN (pc' := 30) d8_29 rfl rfl rfl ?_
  refine X.lenStr (pc' := 33) (cs := [c0, c1]) (X.sVirtual (wd50 hw) (wd51 hw) (wd53 hw) (wd52 hw) (by decide) rfl pd16 E [] rfl rfl d8_30 (X.nf (wd37 hw) rfl)) hwl (wd9 hw) S O2 hz (leB rfl) (leB rfl) (leB rfl) (leB rfl) rfl ?_
  intro T X
  show Y.Ends _ _ _ _ (State.setTop _ (mkF _ 33 #[.val (.ref x), .val (.int ch), .val (.int (0 : Int32))] [(.int (2 : Int32)), (.int (0 : Int32)), (.int ch), (.ref t)]))
  refine X.callP (pc' := 36) (X.sStatic (wd109 hw) (wd110 hw) (wd76 hw) (wd111 hw) (by decide) rfl pd11 [(.ref t), (.int ch), (.int (0 : Int32)), (.int (2 : Int32))] rfl rfl d8_33) (rmUI2 l Z a0 hw t ch _ X.old fm rf SF SA SH SL c0 c1 _ V r_c0 r_c1 hch) (wd111 hw) (wd76 hw) (leB rfl) (leB rfl) (leB rfl) (leB rfl) rfl ?_
  intro T L v X q
  obtain ⟨vv, rfl, hv⟩ := q
  exact X.retIN (by simp) rfl d8_36 (by decide) (by decide) ⟨_, rfl, rfl, vv, rfl, hv⟩
set_option maxRecDepth 65536 in
set_option maxHeartbeats 40000000 in
theorem ef_rmIxU3 (m : MethodId) (x : Addr) (ch : Int32) : entryFrame m #[(.ref x), (.int ch), (.int (0 : Int32))] 3 = mkF m 0 #[.val (.ref x), .val (.int ch), .val (.int (0 : Int32))] [] := by first | (simp [entryFrame, mkF, argsToLocals, Value.category]; done) | (rfl)
set_option maxRecDepth 65536 in
set_option maxHeartbeats 40000000 in
theorem rmIxU3 (l : Launch) (Z : State) (a0 : Array Value) (hw : ∀ d ∈ tables_1, d.before a0 Z = true) (x : Addr) (ch : Int32) (h0 : Heap) (O : Ext Z.heap h0) (z : Int32) (O2 : Sta Z Z.heap "java/lang/String" "COMPACT_STRINGS" "Z" (.int z)) (hz : ¬ z = 0) (fm : Value) (rf : fm.isRef = true) (SF : Sta Z Z.heap "jdk/internal/util/Preconditions" "SIOOBE_FORMATTER" "Ljava/util/function/BiFunction;" fm) (SA : Sta Z Z.heap "java/lang/StringUTF16" "$assertionsDisabled" "Z" (.int 1)) (SH : Sta Z Z.heap "java/lang/StringUTF16" "HI_BYTE_SHIFT" "I" (.int 0)) (SL : Sta Z Z.heap "java/lang/StringUTF16" "LO_BYTE_SHIFT" "I" (.int 8)) (t : Addr) (ka : ClassId) (c0 c1 c2 : Int32) (E : Exa Z h0 x "java/lang/String") (FV : Fld Z h0 x "java/lang/String" "value" "[B" (.ref t)) (FC : Fld Z h0 x "java/lang/String" "coder" "B" (.int 1)) (V : Arv Z h0 t ka .byte (6 : Int32) [(.int (StrChars.lo8 c0)), (.int (StrChars.hi8 c0)), (.int (StrChars.lo8 c1)), (.int (StrChars.hi8 c1)), (.int (StrChars.lo8 c2)), (.int (StrChars.hi8 c2))] (.int 0)) (r_c0 : ¬ c0 < 0 ∧ ¬ (65535 : Int32) < c0) (r_c1 : ¬ c1 < 0 ∧ ¬ (65535 : Int32) < c1) (r_c2 : ¬ c2 < 0 ∧ ¬ (65535 : Int32) < c2) (rch : ¬ ch < 0 ∧ ¬ (255 : Int32) < ch) (hch : ch < (65536 : Int32)) (S : Str Z h0 x [c0, c1, c2]) :
    MN l Z (⟨"java/lang/String", "indexOf", "(II)I"⟩ : MethodName) jdk_42_method_80_code 3 (some .int) [] ({ frames := 5, cells := 0, slots := 0, locals := 100 } : Room) #[(.ref x), (.int ch), (.int (0 : Int32))] h0 [] (RP h0 (fun w => ∃ v : Int32, w = .int v ∧ IX v ch [c0, c1, c2])) := by
  refine MN.mk (a0 := a0) rfl rfl (plainFor_of_name pn0) O (fun m => ef_rmIxU3 m x ch) ?_
  intro pg ev s m below meth cd T hh X
  subst hh
  have hwl : ∀ d ∈ StrChars.Road.wordsLen, d.before a0 Z = true := fun d hd => hw d ((by decide +kernel : ∀ d ∈ StrChars.Road.wordsLen, d ∈ tables_1) d hd)
  refine X.aloadN (pc' := 1) d8_0 rfl rfl rfl ?_
  refine X.callP (pc' := 4) (X.sVirtual (wd44 hw) (wd45 hw) (wd47 hw) (wd46 hw) (by decide) rfl pd15 E [] rfl rfl d8_1 (X.nf (wd37 hw) rfl)) (rmIsL1 l Z a0 hw x _ X.old z O2 hz FC) (wd48 hw) (wd10 hw) (leB rfl) (leB rfl) (leB rfl) (leB rfl) rfl ?_
  intro T L v X q
  subst q
  refine X.ifY (pc' := 23) d8_4 (by decide) (by decide) (by decide) ?_
  refine X.aloadN (pc' := 24) d8_23 rfl rfl rfl ?_
  refine X.getF (pc' := 27) (wd28 hw) Via.refl FV d8_24 rfl ?_
  intro T X
  refine X.iloadN (pc' := 28) d8_27 rfl rfl ?_
  refine X.iloadN (pc' := 29) d8_28 rfl rfl ?_
  refine X.aloadN (pc' := 30) d8_29 rfl rfl rfl ?_
  refine X.lenStr (pc' := 33) (cs := [c0, c1, c2]) (X.sVirtual (wd50 hw) (wd51 hw) (wd53 hw) (wd52 hw) (by decide) rfl pd16 E [] rfl rfl d8_30 (X.nf (wd37 hw) rfl)) hwl (wd9 hw) S O2 hz (leB rfl) (leB rfl) (leB rfl) (leB rfl) rfl ?_
  intro T X
  show Y.Ends _ _ _ _ (State.setTop _ (mkF _ 33 #[.val (.ref x), .val (.int ch), .val (.int (0 : Int32))] [(.int (3 : Int32)), (.int (0 : Int32)), (.int ch), (.ref t)]))
  refine X.callP (pc' := 36) (X.sStatic (wd109 hw) (wd110 hw) (wd76 hw) (wd111 hw) (by decide) rfl pd11 [(.ref t), (.int ch), (.int (0 : Int32)), (.int (3 : Int32))] rfl rfl d8_33) (rmUI3 l Z a0 hw t ch _ X.old fm rf SF SA SH SL c0 c1 c2 _ V r_c0 r_c1 r_c2 hch) (wd111 hw) (wd76 hw) (leB rfl) (leB rfl) (leB rfl) (leB rfl) rfl ?_
  intro T L v X q
  obtain ⟨vv, rfl, hv⟩ := q
  exact X.retIN (by simp) rfl d8_36 (by decide) (by decide) ⟨_, rfl, rfl, vv, rfl, hv⟩
theorem rgT {cs : List Int32} (rg : ∀ c ∈ cs, ¬ c < 0 ∧ ¬ (65535 : Int32) < c) (hb : ∀ c ∈ cs, ¬ (255 : Int32) < c) {c : Int32} (hc : c ∈ cs) : ¬ c < 0 ∧ ¬ (255 : Int32) < c := ⟨(rg c hc).1, hb c hc⟩
set_option maxRecDepth 65536 in
set_option maxHeartbeats 40000000 in
theorem rmIx2 (l : Launch) (Z : State) (a0 : Array Value) (hw : ∀ d ∈ tables_1, d.before a0 Z = true) (x : Addr) (ch : Int32) (h0 : Heap) (O : Ext Z.heap h0) (z : Int32) (O2 : Sta Z Z.heap "java/lang/String" "COMPACT_STRINGS" "Z" (.int z)) (hz : ¬ z = 0) (fm : Value) (rf : fm.isRef = true) (SF : Sta Z Z.heap "jdk/internal/util/Preconditions" "SIOOBE_FORMATTER" "Ljava/util/function/BiFunction;" fm) (SA : Sta Z Z.heap "java/lang/StringUTF16" "$assertionsDisabled" "Z" (.int 1)) (SH : Sta Z Z.heap "java/lang/StringUTF16" "HI_BYTE_SHIFT" "I" (.int 0)) (SL : Sta Z Z.heap "java/lang/StringUTF16" "LO_BYTE_SHIFT" "I" (.int 8)) (cs : List Int32) (hlen : cs.length ≤ 3) (rch : ¬ ch < 0 ∧ ¬ (255 : Int32) < ch) (hch : ch < (65536 : Int32)) (S : Str Z h0 x cs) :
    MN l Z (⟨"java/lang/String", "indexOf", "(II)I"⟩ : MethodName) jdk_42_method_80_code 3 (some .int) [] ({ frames := 5, cells := 0, slots := 0, locals := 100 } : Room) #[(.ref x), (.int ch), (.int (0 : Int32))] h0 [] (RP h0 (fun w => ∃ v : Int32, w = .int v ∧ IX v ch cs)) := by
  have S0 := S
  obtain ⟨t, ka, cd, N, vs, E, FV, FC, V, cod, rg, -⟩ := S
  rcases cod with ⟨rfl, rfl, rfl, hb⟩ | ⟨rfl, rfl, rfl, hex⟩
  · match cs, hlen, S0, V, rg, hb with
    | [], _, S0, V, rg, hb => exact rmIxL0 l Z a0 hw x ch h0 O z O2 hz fm rf SF SA SH SL t ka  E FV FC V  rch hch S0
    | [c0], _, S0, V, rg, hb => exact rmIxL1 l Z a0 hw x ch h0 O z O2 hz fm rf SF SA SH SL t ka c0 E FV FC V (rgT rg hb (by simp)) rch hch S0
    | [c0, c1], _, S0, V, rg, hb => exact rmIxL2 l Z a0 hw x ch h0 O z O2 hz fm rf SF SA SH SL t ka c0 c1 E FV FC V (rgT rg hb (by simp)) (rgT rg hb (by simp)) rch hch S0
    | [c0, c1, c2], _, S0, V, rg, hb => exact rmIxL3 l Z a0 hw x ch h0 O z O2 hz fm rf SF SA SH SL t ka c0 c1 c2 E FV FC V (rgT rg hb (by simp)) (rgT rg hb (by simp)) (rgT rg hb (by simp)) rch hch S0
    | _ :: _ :: _ :: _ :: _, hlen, _, _, _, _ => exact absurd hlen (by simp)
  · match cs, hlen, S0, V, rg, hex with
    | [], _, S0, V, rg, hex => exact absurd hex (fun ⟨_, q, _⟩ => nomatch q)
    | [c0], _, S0, V, rg, hex => exact rmIxU1 l Z a0 hw x ch h0 O z O2 hz fm rf SF SA SH SL t ka c0 E FV FC V (rg _ (by simp)) rch hch S0
    | [c0, c1], _, S0, V, rg, hex => exact rmIxU2 l Z a0 hw x ch h0 O z O2 hz fm rf SF SA SH SL t ka c0 c1 E FV FC V (rg _ (by simp)) (rg _ (by simp)) rch hch S0
    | [c0, c1, c2], _, S0, V, rg, hex => exact rmIxU3 l Z a0 hw x ch h0 O z O2 hz fm rf SF SA SH SL t ka c0 c1 c2 E FV FC V (rg _ (by simp)) (rg _ (by simp)) (rg _ (by simp)) rch hch S0
    | _ :: _ :: _ :: _ :: _, hlen, _, _, _, _ => exact absurd hlen (by simp)
set_option maxRecDepth 65536 in
set_option maxHeartbeats 40000000 in
theorem ef_rmIx1 (m : MethodId) (x : Addr) (ch : Int32) : entryFrame m #[(.ref x), (.int ch)] 2 = mkF m 0 #[.val (.ref x), .val (.int ch)] [] := by first | (simp [entryFrame, mkF, argsToLocals, Value.category]; done) | (rfl)
set_option maxRecDepth 65536 in
set_option maxHeartbeats 40000000 in
theorem rmIx1 (l : Launch) (Z : State) (a0 : Array Value) (hw : ∀ d ∈ tables_1, d.before a0 Z = true) (x : Addr) (ch : Int32) (h0 : Heap) (O : Ext Z.heap h0) (z : Int32) (O2 : Sta Z Z.heap "java/lang/String" "COMPACT_STRINGS" "Z" (.int z)) (hz : ¬ z = 0) (fm : Value) (rf : fm.isRef = true) (SF : Sta Z Z.heap "jdk/internal/util/Preconditions" "SIOOBE_FORMATTER" "Ljava/util/function/BiFunction;" fm) (SA : Sta Z Z.heap "java/lang/StringUTF16" "$assertionsDisabled" "Z" (.int 1)) (SH : Sta Z Z.heap "java/lang/StringUTF16" "HI_BYTE_SHIFT" "I" (.int 0)) (SL : Sta Z Z.heap "java/lang/StringUTF16" "LO_BYTE_SHIFT" "I" (.int 8)) (cs : List Int32) (hlen : cs.length ≤ 3) (rch : ¬ ch < 0 ∧ ¬ (255 : Int32) < ch) (hch : ch < (65536 : Int32)) (S : Str Z h0 x cs) :
    MN l Z (⟨"java/lang/String", "indexOf", "(I)I"⟩ : MethodName) jdk_42_method_79_code 2 (some .int) [] ({ frames := 6, cells := 0, slots := 0, locals := 120 } : Room) #[(.ref x), (.int ch)] h0 [] (RP h0 (fun w => ∃ v : Int32, w = .int v ∧ IX v ch cs)) := by
  refine MN.mk (a0 := a0) rfl rfl (plainFor_of_name pn0) O (fun m => ef_rmIx1 m x ch) ?_
  intro pg ev s m below meth cd T hh X
  subst hh
  refine X.aloadN (pc' := 1) d7_0 rfl rfl rfl ?_
  refine X.iloadN (pc' := 2) d7_1 rfl rfl ?_
  refine X.iconst (pc' := 3) (0 : Int32) d7_2 rfl rfl ?_
  refine X.callP (pc' := 6) (X.sVirtual (wd39 hw) (wd40 hw) (wd42 hw) (wd41 hw) (by decide) rfl pd10 S.exa [(.int ch), (.int (0 : Int32))] rfl rfl d7_3 (X.nf (wd37 hw) rfl)) (rmIx2 l Z a0 hw x ch _ X.old z O2 hz fm rf SF SA SH SL cs hlen rch hch S) (wd43 hw) (wd10 hw) (leB rfl) (leB rfl) (leB rfl) (leB rfl) rfl ?_
  intro T L v X q
  obtain ⟨vv, rfl, hv⟩ := q
  exact X.retIN (by simp) rfl d7_6 (by decide) (by decide) ⟨_, rfl, rfl, vv, rfl, hv⟩
set_option maxRecDepth 65536 in
set_option maxHeartbeats 40000000 in
theorem ef_rmIsF (m : MethodId) (x : Addr) : entryFrame m #[(.ref x)] 1 = mkF m 0 #[.val (.ref x)] [] := by first | (simp [entryFrame, mkF, argsToLocals, Value.category]; done) | (rfl)
set_option maxRecDepth 65536 in
set_option maxHeartbeats 40000000 in
theorem rmIsF (l : Launch) (Z : State) (a0 : Array Value) (hw : ∀ d ∈ tables_1, d.before a0 Z = true) (x : Addr) (h0 : Heap) (O : Ext Z.heap h0) (z : Int32) (O2 : Sta Z Z.heap "java/lang/String" "COMPACT_STRINGS" "Z" (.int z)) (hz : ¬ z = 0) (fm : Value) (rf : fm.isRef = true) (SF : Sta Z Z.heap "jdk/internal/util/Preconditions" "SIOOBE_FORMATTER" "Ljava/util/function/BiFunction;" fm) (SA : Sta Z Z.heap "java/lang/StringUTF16" "$assertionsDisabled" "Z" (.int 1)) (SH : Sta Z Z.heap "java/lang/StringUTF16" "HI_BYTE_SHIFT" "I" (.int 0)) (SL : Sta Z Z.heap "java/lang/StringUTF16" "LO_BYTE_SHIFT" "I" (.int 8)) (cs : List Int32) (hlen : cs.length ≤ 3) (S : Str Z h0 x cs) :
    MN l Z (⟨"com/example/treegraft/treegraft/files/TextFiles", "isField", "(Ljava/lang/String;)Z"⟩ : MethodName) prog_47_method_4_code 1 (some .boolean) [] ({ frames := 7, cells := 0, slots := 0, locals := 140 } : Room) #[(.ref x)] h0 [] (RP h0 (fun w => ∃ v : Int32, w = .int v ∧ ((v = 1 ∧ (9 ∉ cs ∧ 10 ∉ cs ∧ 13 ∉ cs)) ∨ (v = 0 ∧ ¬ (9 ∉ cs ∧ 10 ∉ cs ∧ 13 ∉ cs))))) := by
  refine MN.mk (a0 := a0) rfl rfl (plainFor_of_name pn6) O (fun m => ef_rmIsF m x) ?_
  intro pg ev s m below meth cd T hh X
  subst hh
  refine X.aloadN (pc' := 1) d6_0 rfl rfl rfl ?_
  refine X.bipush (pc' := 3) (9 : Int32) d6_1 rfl rfl ?_
  refine X.callP (pc' := 6) (X.sVirtual (wd34 hw) (wd35 hw) (wd37 hw) (wd36 hw) (by decide) rfl pd1 S.exa [(.int (9 : Int32))] rfl rfl d6_3 (X.nf (wd37 hw) rfl)) (rmIx1 l Z a0 hw x (9 : Int32) _ X.old z O2 hz fm rf SF SA SH SL cs hlen ⟨by decide, by decide⟩ (by decide) S) (wd38 hw) (wd10 hw) (leB rfl) (leB rfl) (leB rfl) (leB rfl) rfl ?_
  intro T L v X q
  obtain ⟨v0, rfl, hv0⟩ := q
  rcases hv0 with ⟨g0, m0⟩ | ⟨g0, m0⟩
  · refine X.ifN (pc' := 9) d6_6 ((if0 _ _).trans (tlt g0).2.1) rfl ?_
    refine X.aloadN (pc' := 10) d6_9 rfl rfl rfl ?_
    refine X.bipush (pc' := 12) (10 : Int32) d6_10 rfl rfl ?_
    refine X.callP (pc' := 15) (X.sVirtual (wd34 hw) (wd35 hw) (wd37 hw) (wd36 hw) (by decide) rfl pd1 S.exa [(.int (10 : Int32))] rfl rfl d6_12 (X.nf (wd37 hw) rfl)) (rmIx1 l Z a0 hw x (10 : Int32) _ X.old z O2 hz fm rf SF SA SH SL cs hlen ⟨by decide, by decide⟩ (by decide) S) (wd38 hw) (wd10 hw) (leB rfl) (leB rfl) (leB rfl) (leB rfl) rfl ?_
    intro T L v X q
    obtain ⟨v1, rfl, hv1⟩ := q
    rcases hv1 with ⟨g1, m1⟩ | ⟨g1, m1⟩
    · refine X.ifN (pc' := 18) d6_15 ((if0 _ _).trans (tlt g1).2.1) rfl ?_
      refine X.aloadN (pc' := 19) d6_18 rfl rfl rfl ?_
      refine X.bipush (pc' := 21) (13 : Int32) d6_19 rfl rfl ?_
      refine X.callP (pc' := 24) (X.sVirtual (wd34 hw) (wd35 hw) (wd37 hw) (wd36 hw) (by decide) rfl pd1 S.exa [(.int (13 : Int32))] rfl rfl d6_21 (X.nf (wd37 hw) rfl)) (rmIx1 l Z a0 hw x (13 : Int32) _ X.old z O2 hz fm rf SF SA SH SL cs hlen ⟨by decide, by decide⟩ (by decide) S) (wd38 hw) (wd10 hw) (leB rfl) (leB rfl) (leB rfl) (leB rfl) rfl ?_
      intro T L v X q
      obtain ⟨v2, rfl, hv2⟩ := q
      rcases hv2 with ⟨g2, m2⟩ | ⟨g2, m2⟩
      · refine X.ifN (pc' := 27) d6_24 ((if0 _ _).trans (tlt g2).2.1) rfl ?_
        refine X.iconst (pc' := 28) (1 : Int32) d6_27 rfl rfl ?_
        refine X.goto (pc' := 32) d6_28 (by decide) (by decide) ?_
        exact X.retIN (by simp) rfl d6_32 (by decide) (by decide) ⟨_, rfl, rfl, 1, rfl, Or.inl ⟨rfl, m0, m1, m2⟩⟩
      · refine X.ifY (pc' := 31) d6_24 ((if0 _ _).trans (flt g2).2.1) (by decide) (by decide) ?_
        refine X.iconst (pc' := 32) (0 : Int32) d6_31 rfl rfl ?_
        exact X.retIN (by simp) rfl d6_32 (by decide) (by decide) ⟨_, rfl, rfl, 0, rfl, Or.inr ⟨rfl, fun q => q.2.2 m2⟩⟩
    · refine X.ifY (pc' := 31) d6_15 ((if0 _ _).trans (flt g1).2.1) (by decide) (by decide) ?_
      refine X.iconst (pc' := 32) (0 : Int32) d6_31 rfl rfl ?_
      exact X.retIN (by simp) rfl d6_32 (by decide) (by decide) ⟨_, rfl, rfl, 0, rfl, Or.inr ⟨rfl, fun q => q.2.1 m1⟩⟩
  · refine X.ifY (pc' := 31) d6_6 ((if0 _ _).trans (flt g0).2.1) (by decide) (by decide) ?_
    refine X.iconst (pc' := 32) (0 : Int32) d6_31 rfl rfl ?_
    exact X.retIN (by simp) rfl d6_32 (by decide) (by decide) ⟨_, rfl, rfl, 0, rfl, Or.inr ⟨rfl, fun q => q.1 m0⟩⟩
set_option maxRecDepth 65536 in
set_option maxHeartbeats 40000000 in
theorem ef_rmDraw (m : MethodId) (p1 : Int32) : entryFrame m #[(.int p1)] 1 = mkF m 0 #[.val (.int p1)] [] := by first | (simp [entryFrame, mkF, argsToLocals, Value.category]; done) | (rfl)
set_option maxRecDepth 65536 in
set_option maxHeartbeats 40000000 in
theorem rmDraw (l : Launch) (Z : State) (a0 : Array Value) (hw : ∀ d ∈ tables_1, d.before a0 Z = true) (p1 : Int32) (h0 : Heap) (O : Ext Z.heap h0)  :
    MN l Z (⟨"com/example/treegraft/treegraft/files/TextFilesIsFieldPinLaw", "draw", "(I)C"⟩ : MethodName) method_2_code 1 (some .char) [] ({ frames := 0, cells := 0, slots := 0, locals := 0 } : Room) #[(.int p1)] h0 [] (RP h0 (fun w => ∃ y : Int32, w = .int y ∧ ((¬ y < 0 ∧ ¬ (65535 : Int32) < y) ∧ nar .char y = y))) := by
  refine MN.mk (a0 := a0) rfl rfl (plainFor_of_name pn7) O (fun m => ef_rmDraw m p1) ?_
  intro pg ev s m below meth cd T hh X
  subst hh
  refine X.iloadN (pc' := 1) d1_0 rfl rfl ?_
  refine X.iconst (pc' := 2) (3 : Int32) d1_1 rfl rfl ?_
  refine X.iand (pc' := 3) d1_2 rfl ?_
  by_cases hc : (p1 &&& (3 : Int32)) = 0
  · refine X.ifN (pc' := 6) d1_3 ((if0 _ _).trans (teq hc).2) rfl ?_
    refine X.iloadN (pc' := 7) d1_6 rfl rfl ?_
    refine X.iconst (pc' := 8) (2 : Int32) d1_7 rfl rfl ?_
    refine X.iushr (pc' := 9) d1_8 rfl ?_
    refine X.bipush (pc' := 11) (15 : Int32) d1_9 rfl rfl ?_
    refine X.iand (pc' := 12) d1_11 rfl ?_
    refine X.i2c (pc' := 13) d1_12 rfl ?_
    generalize hy : ((((p1.toUInt32 >>> ((2 : Int32) &&& 31).toUInt32).toInt32) &&& (15 : Int32)).toUInt32.toUInt16.toUInt32.toInt32) = y
    have R := nar16 _ hy
    exact X.retIN (by simp) (StrChars.narrow_ch R.1.1 R.1.2) d1_13 (by decide) (by decide) ⟨_, rfl, rfl, y, rfl, R⟩
  · refine X.ifY (pc' := 14) d1_3 ((if0 _ _).trans (feq hc).2) (by decide) (by decide) ?_
    refine X.iloadN (pc' := 15) d1_14 rfl rfl ?_
    refine X.iconst (pc' := 16) (2 : Int32) d1_15 rfl rfl ?_
    refine X.iushr (pc' := 17) d1_16 rfl ?_
    refine X.ldcI (pc' := 19) (wd4 hw) d1_17 rfl ?_
    refine X.iand (pc' := 20) d1_19 rfl ?_
    refine X.i2c (pc' := 21) d1_20 rfl ?_
    generalize hy : ((((p1.toUInt32 >>> ((2 : Int32) &&& 31).toUInt32).toInt32) &&& (65535 : Int32)).toUInt32.toUInt16.toUInt32.toInt32) = y
    have R := nar16 _ hy
    exact X.retIN (by simp) (StrChars.narrow_ch R.1.1 R.1.2) d1_21 (by decide) (by decide) ⟨_, rfl, rfl, y, rfl, R⟩
set_option maxRecDepth 65536 in
set_option maxHeartbeats 40000000 in
theorem ef_rmBad (m : MethodId) (y : Int32) : entryFrame m #[(.int y)] 1 = mkF m 0 #[.val (.int y)] [] := by first | (simp [entryFrame, mkF, argsToLocals, Value.category]; done) | (rfl)
set_option maxRecDepth 65536 in
set_option maxHeartbeats 40000000 in
theorem rmBad (l : Launch) (Z : State) (a0 : Array Value) (hw : ∀ d ∈ tables_1, d.before a0 Z = true) (y : Int32) (h0 : Heap) (O : Ext Z.heap h0)  :
    MN l Z (⟨"com/example/treegraft/treegraft/files/TextFilesIsFieldPinLaw", "bad", "(C)Z"⟩ : MethodName) method_3_code 1 (some .boolean) [] ({ frames := 0, cells := 0, slots := 0, locals := 0 } : Room) #[(.int y)] h0 [] (RP h0 (fun w => ∃ v : Int32, w = .int v ∧ ((v = 1 ∧ bad y) ∨ (v = 0 ∧ ¬ bad y)))) := by
  refine MN.mk (a0 := a0) rfl rfl (plainFor_of_name pn7) O (fun m => ef_rmBad m y) ?_
  intro pg ev s m below meth cd T hh X
  subst hh
  refine X.iloadN (pc' := 1) d19_0 rfl rfl ?_
  refine X.bipush (pc' := 3) (9 : Int32) d19_1 rfl rfl ?_
  by_cases h9 : y = 9
  · refine X.icY (pc' := 18) d19_3 ((teq h9).1) (by decide) (by decide) ?_
    refine X.iconst (pc' := 19) (1 : Int32) d19_18 rfl rfl ?_
    refine X.goto (pc' := 23) d19_19 (by decide) (by decide) ?_
    exact X.retIN (by simp) rfl d19_23 (by decide) (by decide) ⟨_, rfl, rfl, 1, rfl, Or.inl ⟨rfl, Or.inl h9⟩⟩
  · refine X.icN (pc' := 6) d19_3 ((feq h9).1) rfl ?_
    refine X.iloadN (pc' := 7) d19_6 rfl rfl ?_
    refine X.bipush (pc' := 9) (10 : Int32) d19_7 rfl rfl ?_
    by_cases h10 : y = 10
    · refine X.icY (pc' := 18) d19_9 ((teq h10).1) (by decide) (by decide) ?_
      refine X.iconst (pc' := 19) (1 : Int32) d19_18 rfl rfl ?_
      refine X.goto (pc' := 23) d19_19 (by decide) (by decide) ?_
      exact X.retIN (by simp) rfl d19_23 (by decide) (by decide) ⟨_, rfl, rfl, 1, rfl, Or.inl ⟨rfl, Or.inr (Or.inl h10)⟩⟩
    · refine X.icN (pc' := 12) d19_9 ((feq h10).1) rfl ?_
      refine X.iloadN (pc' := 13) d19_12 rfl rfl ?_
      refine X.bipush (pc' := 15) (13 : Int32) d19_13 rfl rfl ?_
      by_cases h13 : y = 13
      · refine X.icN (pc' := 18) d19_15 ((teq h13).2) rfl ?_
        refine X.iconst (pc' := 19) (1 : Int32) d19_18 rfl rfl ?_
        refine X.goto (pc' := 23) d19_19 (by decide) (by decide) ?_
        exact X.retIN (by simp) rfl d19_23 (by decide) (by decide) ⟨_, rfl, rfl, 1, rfl, Or.inl ⟨rfl, Or.inr (Or.inr h13)⟩⟩
      · refine X.icY (pc' := 22) d19_15 ((feq h13).2) (by decide) (by decide) ?_
        refine X.iconst (pc' := 23) (0 : Int32) d19_22 rfl rfl ?_
        exact X.retIN (by simp) rfl d19_23 (by decide) (by decide) ⟨_, rfl, rfl, 0, rfl, Or.inr ⟨rfl, fun q => q.elim h9 (fun q => q.elim h10 h13)⟩⟩
set_option maxRecDepth 65536 in
set_option maxHeartbeats 40000000 in
theorem ef_rmMk (m : MethodId) (n : Int32) (c0 : Int32) (c1 : Int32) (c2 : Int32) : entryFrame m #[(.int n), (.int c0), (.int c1), (.int c2)] 4 = mkF m 0 #[.val (.int n), .val (.int c0), .val (.int c1), .val (.int c2)] [] := by first | (simp [entryFrame, mkF, argsToLocals, Value.category]; done) | (rfl)
set_option maxRecDepth 65536 in
set_option maxHeartbeats 40000000 in
theorem rmMk (l : Launch) (Z : State) (a0 : Array Value) (hw : ∀ d ∈ tables_1, d.before a0 Z = true) (ew : EW Z a0 consts_1) (n : Int32) (c0 : Int32) (c1 : Int32) (c2 : Int32) (h0 : Heap) (O : Ext Z.heap h0) (z : Int32) (O2 : Sta Z Z.heap "java/lang/String" "COMPACT_STRINGS" "Z" (.int z)) (hz : ¬ z = 0) (SA : Sta Z Z.heap "java/lang/StringUTF16" "$assertionsDisabled" "Z" (.int 1)) (SH : Sta Z Z.heap "java/lang/StringUTF16" "HI_BYTE_SHIFT" "I" (.int 0)) (SL : Sta Z Z.heap "java/lang/StringUTF16" "LO_BYTE_SHIFT" "I" (.int 8)) (R_c0 : (¬ c0 < 0 ∧ ¬ (65535 : Int32) < c0) ∧ nar .char c0 = c0) (R_c1 : (¬ c1 < 0 ∧ ¬ (65535 : Int32) < c1) ∧ nar .char c1 = c1) (R_c2 : (¬ c2 < 0 ∧ ¬ (65535 : Int32) < c2) ∧ nar .char c2 = c2) :
    MCc l Z consts_1 (⟨"com/example/treegraft/treegraft/files/TextFilesIsFieldPinLaw", "make", "(ICCC)Ljava/lang/String;"⟩ : MethodName) method_4_code 4 (some (.object "java/lang/String")) [] ({ frames := 6, cells := 6, slots := 16, locals := 90 } : Room) #[(.int n), (.int c0), (.int c1), (.int c2)] h0 [] (RV (fun w h => ∃ r, w = .ref r ∧ h0.size ≤ r ∧ Str Z h r (mk3 n c0 c1 c2))) := by
  refine MCc.mk (a0 := a0) rfl rfl (plainFor_of_name pn7) O ew (fun m => ef_rmMk m n c0 c1 c2) ?_
  intro pg ev s m below meth cd T hh X
  subst hh
  have hws : ∀ d ∈ StrChars.Road.words, d.before a0 Z = true := fun d hd => hw d ((by decide +kernel : ∀ d ∈ StrChars.Road.words, d ∈ tables_1) d hd)
  have r_c0 := R_c0.1
  have r_c1 := R_c1.1
  have r_c2 := R_c2.1
  refine X.iloadN (pc' := 1) d2_0 rfl rfl ?_
  by_cases hn0 : n = 0
  · refine X.ifN (pc' := 4) d2_1 ((if0 _ _).trans (teq hn0).2) rfl ?_
    refine X.newO (pc' := 7) (wd8 hw) (wd9 hw) (wd10 hw) d2_4 (by decide) (by decide) rfl ?_
    intro T h x1 g_x1 Ex lt_x1 E_x1 D_x1 X1
    have z_x1 : Z.heap.size ≤ x1 := by rw [g_x1]; exact X.old.1
    have s_x1 : s.heap.size ≤ x1 := by rw [g_x1]; exact X.kp.1
    replace X := X1
    have F_x1_value : Fld Z h x1 "java/lang/String" "value" "[B" .null := D_x1 (Or.inr (wd24 hw)) (ty := (.array .byte)) (by decide)
    have F_x1_coder : Fld Z h x1 "java/lang/String" "coder" "B" (.int (0 : Int32)) := D_x1 (Or.inr (wd25 hw)) (ty := .byte) (by decide)
    refine X.dup (pc' := 8) d2_7 rfl rfl ?_
    refine X.iconst (pc' := 9) (0 : Int32) d2_8 rfl rfl ?_
    refine X.newP (pc' := 11) (aty := .char) (wd11 hw) d2_9 (by decide) 0 (by decide) (by decide) (by decide) (by decide) rfl ?_
    intro T h b1 ka_b1 g_b1 Ex lt_b1 V_b1 X1
    have z_b1 : Z.heap.size ≤ b1 := by rw [g_b1]; exact X.old.1
    have s_b1 : s.heap.size ≤ b1 := by rw [g_b1]; exact X.kp.1
    have ne_x1_b1 : x1 ≠ b1 := Nat.ne_of_lt (by rw [g_b1]; exact lt_x1)
    replace E_x1 := E_x1.ext Ex
    replace lt_x1 := Nat.lt_of_lt_of_le lt_x1 Ex.1
    replace F_x1_value := F_x1_value.ext Ex
    replace F_x1_coder := F_x1_coder.ext Ex
    replace X := X1
    replace V_b1 : Arv Z h b1 ka_b1 .char (0 : Int32) [] (.int (0 : Int32)) := (Arv.pad V_b1 (pad_rep [] (.int (0 : Int32)) 0))
    refine X.coldU (pc' := 14) (X.sSpecial rfl (wd12 hw) (wd13 hw) (wd14 hw) (by decide) rfl pd17 [(.ref b1)] rfl rfl d2_11) (rmE0 l Z a0 hw ew x1 b1 _ X.old z_x1 E_x1 F_x1_value F_x1_coder _ V_b1) (wd14 hw) (wd10 hw) (leB rfl) (leB rfl) (leB rfl) (leB rfl) (allS (Or.inr s_x1) all0) rfl ?_
    intro T vm h L X K hC S_x1
    replace E_x1 := E_x1.keep K
    replace lt_x1 := Nat.lt_of_lt_of_le lt_x1 K.1
    replace V_b1 := V_b1.keep K (ninS (Ne.symm ne_x1_b1) nin0)
    replace lt_b1 := Nat.lt_of_lt_of_le lt_b1 K.1
    rw [← mk3_0 (c0 := c0) (c1 := c1) (c2 := c2) hn0] at S_x1
    exact X.retAC rfl rfl d2_14 (by decide) (by decide) ⟨_, rfl, x1, rfl, s_x1, S_x1⟩
  · refine X.ifY (pc' := 15) d2_1 ((if0 _ _).trans (feq hn0).2) (by decide) (by decide) ?_
    refine X.iloadN (pc' := 16) d2_15 rfl rfl ?_
    refine X.iconst (pc' := 17) (1 : Int32) d2_16 rfl rfl ?_
    by_cases hn1 : n = 1
    · refine X.icN (pc' := 20) d2_17 ((teq hn1).2) rfl ?_
      refine X.newO (pc' := 23) (wd8 hw) (wd9 hw) (wd10 hw) d2_20 (by decide) (by decide) rfl ?_
      intro T h x1 g_x1 Ex lt_x1 E_x1 D_x1 X1
      have z_x1 : Z.heap.size ≤ x1 := by rw [g_x1]; exact X.old.1
      have s_x1 : s.heap.size ≤ x1 := by rw [g_x1]; exact X.kp.1
      replace X := X1
      have F_x1_value : Fld Z h x1 "java/lang/String" "value" "[B" .null := D_x1 (Or.inr (wd24 hw)) (ty := (.array .byte)) (by decide)
      have F_x1_coder : Fld Z h x1 "java/lang/String" "coder" "B" (.int (0 : Int32)) := D_x1 (Or.inr (wd25 hw)) (ty := .byte) (by decide)
      refine X.dup (pc' := 24) d2_23 rfl rfl ?_
      refine X.iconst (pc' := 25) (1 : Int32) d2_24 rfl rfl ?_
      refine X.newP (pc' := 27) (aty := .char) (wd11 hw) d2_25 (by decide) 1 (by decide) (by decide) (by decide) (by decide) rfl ?_
      intro T h b1 ka_b1 g_b1 Ex lt_b1 V_b1 X1
      have z_b1 : Z.heap.size ≤ b1 := by rw [g_b1]; exact X.old.1
      have s_b1 : s.heap.size ≤ b1 := by rw [g_b1]; exact X.kp.1
      have ne_x1_b1 : x1 ≠ b1 := Nat.ne_of_lt (by rw [g_b1]; exact lt_x1)
      replace E_x1 := E_x1.ext Ex
      replace lt_x1 := Nat.lt_of_lt_of_le lt_x1 Ex.1
      replace F_x1_value := F_x1_value.ext Ex
      replace F_x1_coder := F_x1_coder.ext Ex
      replace X := X1
      replace V_b1 : Arv Z h b1 ka_b1 .char (1 : Int32) [(.int (0 : Int32))] (.int (0 : Int32)) := (Arv.pad V_b1 (pad_rep [] (.int (0 : Int32)) 1))
      refine X.dup (pc' := 28) d2_27 rfl rfl ?_
      refine X.iconst (pc' := 29) (0 : Int32) d2_28 rfl rfl ?_
      refine X.iloadN (pc' := 30) d2_29 rfl rfl ?_
      refine X.castore (pc' := 31) V_b1 ⟨by decide, by decide⟩ 0 rfl (Nat.le_of_ble_eq_true rfl) z_b1 (Or.inr s_b1) d2_30 rfl ?_
      intro T h L X W V1
      rw [R_c0.2] at V1
      replace E_x1 := E_x1.wr W
      replace lt_x1 := Nat.lt_of_lt_of_le lt_x1 (Keep.of_wr W).1
      replace F_x1_value := F_x1_value.other W (Or.inl ne_x1_b1)
      replace F_x1_coder := F_x1_coder.other W (Or.inl ne_x1_b1)
      replace lt_b1 := Nat.lt_of_lt_of_le lt_b1 (Keep.of_wr W).1
      replace V_b1 : Arv Z h b1 ka_b1 .char (1 : Int32) [(.int c0)] (.int (0 : Int32)) := V1
      by_cases hbig : (255 : Int32) < c0
      · refine X.callU (pc' := 34) (X.sSpecial rfl (wd12 hw) (wd13 hw) (wd14 hw) (by decide) rfl pd17 [(.ref b1)] rfl rfl d2_31) (rmU1_1 l Z a0 hw x1 b1 _ X.old z O2 hz SA SH SL z_x1 E_x1 F_x1_value F_x1_coder c0 _ V_b1 r_c0 hbig) (wd14 hw) (wd10 hw) (leB rfl) (leB rfl) (leB rfl) (leB rfl) (sfS (Safe.blank X.al E_x1 (wd9 hw) F_x1_value) sf0) (allS z_x1 all0) (allS (Or.inr s_x1) all0) rfl ?_
        intro T h L X K S_x1
        replace E_x1 := E_x1.keep K
        replace lt_x1 := Nat.lt_of_lt_of_le lt_x1 K.1
        replace V_b1 := V_b1.keep K (ninS (Ne.symm ne_x1_b1) nin0)
        replace lt_b1 := Nat.lt_of_lt_of_le lt_b1 K.1
        rw [← mk3_1 (c0 := c0) (c1 := c1) (c2 := c2) hn0 hn1] at S_x1
        exact X.retAC rfl rfl d2_34 (by decide) (by decide) ⟨_, rfl, x1, rfl, s_x1, S_x1⟩
      · refine X.newStr (pc' := 34) (cs := [c0]) (n := 1) (X.sSpecial rfl (wd12 hw) (wd13 hw) (wd14 hw) (by decide) rfl pd17 [(.ref b1)] rfl rfl d2_31) hws (wd9 hw) E_x1 F_x1_value F_x1_coder V_b1 O2 hz rfl rfl (by decide) (by decide) (allC ⟨r_c0.1, fun q => hbig (q)⟩ allN) (leB rfl) (leB rfl) (leB rfl) (leB rfl) z_x1 (Or.inr s_x1) rfl ?_
        intro T h L X K S_x1
        replace E_x1 := E_x1.keep K
        replace lt_x1 := Nat.lt_of_lt_of_le lt_x1 K.1
        replace V_b1 := V_b1.keep K (ninS (Ne.symm ne_x1_b1) nin0)
        replace lt_b1 := Nat.lt_of_lt_of_le lt_b1 K.1
        rw [← mk3_1 (c0 := c0) (c1 := c1) (c2 := c2) hn0 hn1] at S_x1
        exact X.retAC rfl rfl d2_34 (by decide) (by decide) ⟨_, rfl, x1, rfl, s_x1, S_x1⟩
    · refine X.icY (pc' := 35) d2_17 ((feq hn1).2) (by decide) (by decide) ?_
      refine X.iloadN (pc' := 36) d2_35 rfl rfl ?_
      refine X.iconst (pc' := 37) (2 : Int32) d2_36 rfl rfl ?_
      by_cases hn2 : n = 2
      · refine X.icN (pc' := 40) d2_37 ((teq hn2).2) rfl ?_
        refine X.newO (pc' := 43) (wd8 hw) (wd9 hw) (wd10 hw) d2_40 (by decide) (by decide) rfl ?_
        intro T h x1 g_x1 Ex lt_x1 E_x1 D_x1 X1
        have z_x1 : Z.heap.size ≤ x1 := by rw [g_x1]; exact X.old.1
        have s_x1 : s.heap.size ≤ x1 := by rw [g_x1]; exact X.kp.1
        replace X := X1
        have F_x1_value : Fld Z h x1 "java/lang/String" "value" "[B" .null := D_x1 (Or.inr (wd24 hw)) (ty := (.array .byte)) (by decide)
        have F_x1_coder : Fld Z h x1 "java/lang/String" "coder" "B" (.int (0 : Int32)) := D_x1 (Or.inr (wd25 hw)) (ty := .byte) (by decide)
        refine X.dup (pc' := 44) d2_43 rfl rfl ?_
        refine X.iconst (pc' := 45) (2 : Int32) d2_44 rfl rfl ?_
        refine X.newP (pc' := 47) (aty := .char) (wd11 hw) d2_45 (by decide) 2 (by decide) (by decide) (by decide) (by decide) rfl ?_
        intro T h b1 ka_b1 g_b1 Ex lt_b1 V_b1 X1
        have z_b1 : Z.heap.size ≤ b1 := by rw [g_b1]; exact X.old.1
        have s_b1 : s.heap.size ≤ b1 := by rw [g_b1]; exact X.kp.1
        have ne_x1_b1 : x1 ≠ b1 := Nat.ne_of_lt (by rw [g_b1]; exact lt_x1)
        replace E_x1 := E_x1.ext Ex
        replace lt_x1 := Nat.lt_of_lt_of_le lt_x1 Ex.1
        replace F_x1_value := F_x1_value.ext Ex
        replace F_x1_coder := F_x1_coder.ext Ex
        replace X := X1
        replace V_b1 : Arv Z h b1 ka_b1 .char (2 : Int32) [(.int (0 : Int32)), (.int (0 : Int32))] (.int (0 : Int32)) := (Arv.pad V_b1 (pad_rep [] (.int (0 : Int32)) 2))
        refine X.dup (pc' := 48) d2_47 rfl rfl ?_
        refine X.iconst (pc' := 49) (0 : Int32) d2_48 rfl rfl ?_
        refine X.iloadN (pc' := 50) d2_49 rfl rfl ?_
        refine X.castore (pc' := 51) V_b1 ⟨by decide, by decide⟩ 0 rfl (Nat.le_of_ble_eq_true rfl) z_b1 (Or.inr s_b1) d2_50 rfl ?_
        intro T h L X W V1
        rw [R_c0.2] at V1
        replace E_x1 := E_x1.wr W
        replace lt_x1 := Nat.lt_of_lt_of_le lt_x1 (Keep.of_wr W).1
        replace F_x1_value := F_x1_value.other W (Or.inl ne_x1_b1)
        replace F_x1_coder := F_x1_coder.other W (Or.inl ne_x1_b1)
        replace lt_b1 := Nat.lt_of_lt_of_le lt_b1 (Keep.of_wr W).1
        replace V_b1 : Arv Z h b1 ka_b1 .char (2 : Int32) [(.int c0), (.int (0 : Int32))] (.int (0 : Int32)) := V1
        refine X.dup (pc' := 52) d2_51 rfl rfl ?_
        refine X.iconst (pc' := 53) (1 : Int32) d2_52 rfl rfl ?_
        refine X.iloadN (pc' := 54) d2_53 rfl rfl ?_
        refine X.castore (pc' := 55) V_b1 ⟨by decide, by decide⟩ 1 rfl (Nat.le_of_ble_eq_true rfl) z_b1 (Or.inr s_b1) d2_54 rfl ?_
        intro T h L X W V1
        rw [R_c1.2] at V1
        replace E_x1 := E_x1.wr W
        replace lt_x1 := Nat.lt_of_lt_of_le lt_x1 (Keep.of_wr W).1
        replace F_x1_value := F_x1_value.other W (Or.inl ne_x1_b1)
        replace F_x1_coder := F_x1_coder.other W (Or.inl ne_x1_b1)
        replace lt_b1 := Nat.lt_of_lt_of_le lt_b1 (Keep.of_wr W).1
        replace V_b1 : Arv Z h b1 ka_b1 .char (2 : Int32) [(.int c0), (.int c1)] (.int (0 : Int32)) := V1
        by_cases hbig : (255 : Int32) < c0 ∨ (255 : Int32) < c1
        · refine X.callU (pc' := 58) (X.sSpecial rfl (wd12 hw) (wd13 hw) (wd14 hw) (by decide) rfl pd17 [(.ref b1)] rfl rfl d2_55) (rmU1_2 l Z a0 hw x1 b1 _ X.old z O2 hz SA SH SL z_x1 E_x1 F_x1_value F_x1_coder c0 c1 _ V_b1 r_c0 r_c1 hbig) (wd14 hw) (wd10 hw) (leB rfl) (leB rfl) (leB rfl) (leB rfl) (sfS (Safe.blank X.al E_x1 (wd9 hw) F_x1_value) sf0) (allS z_x1 all0) (allS (Or.inr s_x1) all0) rfl ?_
          intro T h L X K S_x1
          replace E_x1 := E_x1.keep K
          replace lt_x1 := Nat.lt_of_lt_of_le lt_x1 K.1
          replace V_b1 := V_b1.keep K (ninS (Ne.symm ne_x1_b1) nin0)
          replace lt_b1 := Nat.lt_of_lt_of_le lt_b1 K.1
          rw [← mk3_2 (c0 := c0) (c1 := c1) (c2 := c2) hn0 hn1 hn2] at S_x1
          exact X.retAC rfl rfl d2_58 (by decide) (by decide) ⟨_, rfl, x1, rfl, s_x1, S_x1⟩
        · refine X.newStr (pc' := 58) (cs := [c0, c1]) (n := 2) (X.sSpecial rfl (wd12 hw) (wd13 hw) (wd14 hw) (by decide) rfl pd17 [(.ref b1)] rfl rfl d2_55) hws (wd9 hw) E_x1 F_x1_value F_x1_coder V_b1 O2 hz rfl rfl (by decide) (by decide) (allC ⟨r_c0.1, fun q => hbig (Or.inl q)⟩ (allC ⟨r_c1.1, fun q => hbig (Or.inr (q))⟩ allN)) (leB rfl) (leB rfl) (leB rfl) (leB rfl) z_x1 (Or.inr s_x1) rfl ?_
          intro T h L X K S_x1
          replace E_x1 := E_x1.keep K
          replace lt_x1 := Nat.lt_of_lt_of_le lt_x1 K.1
          replace V_b1 := V_b1.keep K (ninS (Ne.symm ne_x1_b1) nin0)
          replace lt_b1 := Nat.lt_of_lt_of_le lt_b1 K.1
          rw [← mk3_2 (c0 := c0) (c1 := c1) (c2 := c2) hn0 hn1 hn2] at S_x1
          exact X.retAC rfl rfl d2_58 (by decide) (by decide) ⟨_, rfl, x1, rfl, s_x1, S_x1⟩
      · refine X.icY (pc' := 59) d2_37 ((feq hn2).2) (by decide) (by decide) ?_
        refine X.newO (pc' := 62) (wd8 hw) (wd9 hw) (wd10 hw) d2_59 (by decide) (by decide) rfl ?_
        intro T h x1 g_x1 Ex lt_x1 E_x1 D_x1 X1
        have z_x1 : Z.heap.size ≤ x1 := by rw [g_x1]; exact X.old.1
        have s_x1 : s.heap.size ≤ x1 := by rw [g_x1]; exact X.kp.1
        replace X := X1
        have F_x1_value : Fld Z h x1 "java/lang/String" "value" "[B" .null := D_x1 (Or.inr (wd24 hw)) (ty := (.array .byte)) (by decide)
        have F_x1_coder : Fld Z h x1 "java/lang/String" "coder" "B" (.int (0 : Int32)) := D_x1 (Or.inr (wd25 hw)) (ty := .byte) (by decide)
        refine X.dup (pc' := 63) d2_62 rfl rfl ?_
        refine X.iconst (pc' := 64) (3 : Int32) d2_63 rfl rfl ?_
        refine X.newP (pc' := 66) (aty := .char) (wd11 hw) d2_64 (by decide) 3 (by decide) (by decide) (by decide) (by decide) rfl ?_
        intro T h b1 ka_b1 g_b1 Ex lt_b1 V_b1 X1
        have z_b1 : Z.heap.size ≤ b1 := by rw [g_b1]; exact X.old.1
        have s_b1 : s.heap.size ≤ b1 := by rw [g_b1]; exact X.kp.1
        have ne_x1_b1 : x1 ≠ b1 := Nat.ne_of_lt (by rw [g_b1]; exact lt_x1)
        replace E_x1 := E_x1.ext Ex
        replace lt_x1 := Nat.lt_of_lt_of_le lt_x1 Ex.1
        replace F_x1_value := F_x1_value.ext Ex
        replace F_x1_coder := F_x1_coder.ext Ex
        replace X := X1
        replace V_b1 : Arv Z h b1 ka_b1 .char (3 : Int32) [(.int (0 : Int32)), (.int (0 : Int32)), (.int (0 : Int32))] (.int (0 : Int32)) := (Arv.pad V_b1 (pad_rep [] (.int (0 : Int32)) 3))
        refine X.dup (pc' := 67) d2_66 rfl rfl ?_
        refine X.iconst (pc' := 68) (0 : Int32) d2_67 rfl rfl ?_
        refine X.iloadN (pc' := 69) d2_68 rfl rfl ?_
        refine X.castore (pc' := 70) V_b1 ⟨by decide, by decide⟩ 0 rfl (Nat.le_of_ble_eq_true rfl) z_b1 (Or.inr s_b1) d2_69 rfl ?_
        intro T h L X W V1
        rw [R_c0.2] at V1
        replace E_x1 := E_x1.wr W
        replace lt_x1 := Nat.lt_of_lt_of_le lt_x1 (Keep.of_wr W).1
        replace F_x1_value := F_x1_value.other W (Or.inl ne_x1_b1)
        replace F_x1_coder := F_x1_coder.other W (Or.inl ne_x1_b1)
        replace lt_b1 := Nat.lt_of_lt_of_le lt_b1 (Keep.of_wr W).1
        replace V_b1 : Arv Z h b1 ka_b1 .char (3 : Int32) [(.int c0), (.int (0 : Int32)), (.int (0 : Int32))] (.int (0 : Int32)) := V1
        refine X.dup (pc' := 71) d2_70 rfl rfl ?_
        refine X.iconst (pc' := 72) (1 : Int32) d2_71 rfl rfl ?_
        refine X.iloadN (pc' := 73) d2_72 rfl rfl ?_
        refine X.castore (pc' := 74) V_b1 ⟨by decide, by decide⟩ 1 rfl (Nat.le_of_ble_eq_true rfl) z_b1 (Or.inr s_b1) d2_73 rfl ?_
        intro T h L X W V1
        rw [R_c1.2] at V1
        replace E_x1 := E_x1.wr W
        replace lt_x1 := Nat.lt_of_lt_of_le lt_x1 (Keep.of_wr W).1
        replace F_x1_value := F_x1_value.other W (Or.inl ne_x1_b1)
        replace F_x1_coder := F_x1_coder.other W (Or.inl ne_x1_b1)
        replace lt_b1 := Nat.lt_of_lt_of_le lt_b1 (Keep.of_wr W).1
        replace V_b1 : Arv Z h b1 ka_b1 .char (3 : Int32) [(.int c0), (.int c1), (.int (0 : Int32))] (.int (0 : Int32)) := V1
        refine X.dup (pc' := 75) d2_74 rfl rfl ?_
        refine X.iconst (pc' := 76) (2 : Int32) d2_75 rfl rfl ?_
        refine X.iloadN (pc' := 77) d2_76 rfl rfl ?_
        refine X.castore (pc' := 78) V_b1 ⟨by decide, by decide⟩ 2 rfl (Nat.le_of_ble_eq_true rfl) z_b1 (Or.inr s_b1) d2_77 rfl ?_
        intro T h L X W V1
        rw [R_c2.2] at V1
        replace E_x1 := E_x1.wr W
        replace lt_x1 := Nat.lt_of_lt_of_le lt_x1 (Keep.of_wr W).1
        replace F_x1_value := F_x1_value.other W (Or.inl ne_x1_b1)
        replace F_x1_coder := F_x1_coder.other W (Or.inl ne_x1_b1)
        replace lt_b1 := Nat.lt_of_lt_of_le lt_b1 (Keep.of_wr W).1
        replace V_b1 : Arv Z h b1 ka_b1 .char (3 : Int32) [(.int c0), (.int c1), (.int c2)] (.int (0 : Int32)) := V1
        by_cases hbig : (255 : Int32) < c0 ∨ (255 : Int32) < c1 ∨ (255 : Int32) < c2
        · refine X.callU (pc' := 81) (X.sSpecial rfl (wd12 hw) (wd13 hw) (wd14 hw) (by decide) rfl pd17 [(.ref b1)] rfl rfl d2_78) (rmU1_3 l Z a0 hw x1 b1 _ X.old z O2 hz SA SH SL z_x1 E_x1 F_x1_value F_x1_coder c0 c1 c2 _ V_b1 r_c0 r_c1 r_c2 hbig) (wd14 hw) (wd10 hw) (leB rfl) (leB rfl) (leB rfl) (leB rfl) (sfS (Safe.blank X.al E_x1 (wd9 hw) F_x1_value) sf0) (allS z_x1 all0) (allS (Or.inr s_x1) all0) rfl ?_
          intro T h L X K S_x1
          replace E_x1 := E_x1.keep K
          replace lt_x1 := Nat.lt_of_lt_of_le lt_x1 K.1
          replace V_b1 := V_b1.keep K (ninS (Ne.symm ne_x1_b1) nin0)
          replace lt_b1 := Nat.lt_of_lt_of_le lt_b1 K.1
          rw [← mk3_3 (c0 := c0) (c1 := c1) (c2 := c2) hn0 hn1 hn2] at S_x1
          exact X.retAC rfl rfl d2_81 (by decide) (by decide) ⟨_, rfl, x1, rfl, s_x1, S_x1⟩
        · refine X.newStr (pc' := 81) (cs := [c0, c1, c2]) (n := 3) (X.sSpecial rfl (wd12 hw) (wd13 hw) (wd14 hw) (by decide) rfl pd17 [(.ref b1)] rfl rfl d2_78) hws (wd9 hw) E_x1 F_x1_value F_x1_coder V_b1 O2 hz rfl rfl (by decide) (by decide) (allC ⟨r_c0.1, fun q => hbig (Or.inl q)⟩ (allC ⟨r_c1.1, fun q => hbig (Or.inr (Or.inl q))⟩ (allC ⟨r_c2.1, fun q => hbig (Or.inr (Or.inr (q)))⟩ allN))) (leB rfl) (leB rfl) (leB rfl) (leB rfl) z_x1 (Or.inr s_x1) rfl ?_
          intro T h L X K S_x1
          replace E_x1 := E_x1.keep K
          replace lt_x1 := Nat.lt_of_lt_of_le lt_x1 K.1
          replace V_b1 := V_b1.keep K (ninS (Ne.symm ne_x1_b1) nin0)
          replace lt_b1 := Nat.lt_of_lt_of_le lt_b1 K.1
          rw [← mk3_3 (c0 := c0) (c1 := c1) (c2 := c2) hn0 hn1 hn2] at S_x1
          exact X.retAC rfl rfl d2_81 (by decide) (by decide) ⟨_, rfl, x1, rfl, s_x1, S_x1⟩
set_option maxRecDepth 65536 in
set_option maxHeartbeats 40000000 in
theorem ef_rm0 (m : MethodId) (p1 : Int32) (p2 : Int32) (p3 : Int32) (p4 : Int32) : entryFrame m #[(.int p1), (.int p2), (.int p3), (.int p4)] maxLocals = mkF m 0 #[.val (.int p1), .val (.int p2), .val (.int p3), .val (.int p4), .unset, .unset, .unset, .unset, .unset, .unset] [] := by first | (simp [entryFrame, mkF, argsToLocals, Value.category, maxLocals]; done) | (rfl)
set_option maxRecDepth 65536 in
set_option maxHeartbeats 40000000 in
theorem rm0 (l : Launch) (Z : State) (a0 : Array Value) (hw : ∀ d ∈ tables_1, d.before a0 Z = true) (ew : EW Z a0 consts_1) (p1 : Int32) (p2 : Int32) (p3 : Int32) (p4 : Int32) (h0 : Heap) (O : Ext Z.heap h0) (z : Int32) (O2 : Sta Z Z.heap "java/lang/String" "COMPACT_STRINGS" "Z" (.int z)) (hz : ¬ z = 0) (fm : Value) (rf : fm.isRef = true) (SF : Sta Z Z.heap "jdk/internal/util/Preconditions" "SIOOBE_FORMATTER" "Ljava/util/function/BiFunction;" fm) (SA : Sta Z Z.heap "java/lang/StringUTF16" "$assertionsDisabled" "Z" (.int 1)) (SH : Sta Z Z.heap "java/lang/StringUTF16" "HI_BYTE_SHIFT" "I" (.int 0)) (SL : Sta Z Z.heap "java/lang/StringUTF16" "LO_BYTE_SHIFT" "I" (.int 8)) :
    MCc l Z consts_1 x code maxLocals ret tables_1 room_1 #[(.int p1), (.int p2), (.int p3), (.int p4)] h0 [] (RV (fun w h => w = .int 1)) := by
  refine MCc.mk (a0 := a0) rfl rfl (plainFor_of_name pn7) O ew (fun m => ef_rm0 m p1 p2 p3 p4) ?_
  intro pg ev s m below meth cd T hh X
  subst hh
  refine X.iloadN (pc' := 1) at_0 rfl rfl ?_
  refine X.iconst (pc' := 2) (3 : Int32) at_1 rfl rfl ?_
  refine X.iand (pc' := 3) at_2 rfl ?_
  generalize hg_n : (p1 &&& (3 : Int32)) = n
  have hn := and3 hg_n
  refine X.istore (pc' := 5) #[.val (.int p1), .val (.int p2), .val (.int p3), .val (.int p4), .val (.int n), .unset, .unset, .unset, .unset, .unset] at_3 rfl rfl ?_
  refine X.iloadN (pc' := 6) at_5 rfl rfl ?_
  refine X.callP (pc' := 9) (X.sStatic (wd0 hw) (wd1 hw) (wd2 hw) (wd3 hw) (by decide) rfl pd18 [(.int p2)] rfl rfl at_6) (rmDraw l Z a0 hw p2 _ X.old) (wd3 hw) (wd2 hw) (leB rfl) (leB rfl) (leB rfl) (leB rfl) rfl ?_
  intro T L v X q
  obtain ⟨c0, rfl, R_c0⟩ := q
  refine X.istore (pc' := 11) #[.val (.int p1), .val (.int p2), .val (.int p3), .val (.int p4), .val (.int n), .val (.int c0), .unset, .unset, .unset, .unset] at_9 rfl rfl ?_
  refine X.iloadN (pc' := 12) at_11 rfl rfl ?_
  refine X.callP (pc' := 15) (X.sStatic (wd0 hw) (wd1 hw) (wd2 hw) (wd3 hw) (by decide) rfl pd18 [(.int p3)] rfl rfl at_12) (rmDraw l Z a0 hw p3 _ X.old) (wd3 hw) (wd2 hw) (leB rfl) (leB rfl) (leB rfl) (leB rfl) rfl ?_
  intro T L v X q
  obtain ⟨c1, rfl, R_c1⟩ := q
  refine X.istore (pc' := 17) #[.val (.int p1), .val (.int p2), .val (.int p3), .val (.int p4), .val (.int n), .val (.int c0), .val (.int c1), .unset, .unset, .unset] at_15 rfl rfl ?_
  refine X.iloadN (pc' := 18) at_17 rfl rfl ?_
  refine X.callP (pc' := 21) (X.sStatic (wd0 hw) (wd1 hw) (wd2 hw) (wd3 hw) (by decide) rfl pd18 [(.int p4)] rfl rfl at_18) (rmDraw l Z a0 hw p4 _ X.old) (wd3 hw) (wd2 hw) (leB rfl) (leB rfl) (leB rfl) (leB rfl) rfl ?_
  intro T L v X q
  obtain ⟨c2, rfl, R_c2⟩ := q
  refine X.istore (pc' := 23) #[.val (.int p1), .val (.int p2), .val (.int p3), .val (.int p4), .val (.int n), .val (.int c0), .val (.int c1), .val (.int c2), .unset, .unset] at_21 rfl rfl ?_
  refine X.iload (pc' := 25) at_23 rfl rfl ?_
  refine X.iload (pc' := 27) at_25 rfl rfl ?_
  refine X.iload (pc' := 29) at_27 rfl rfl ?_
  refine X.iload (pc' := 31) at_29 rfl rfl ?_
  refine X.coldV (pc' := 34) (X.sStatic (wd5 hw) (wd6 hw) (wd2 hw) (wd7 hw) (by decide) rfl pd19 [(.int n), (.int c0), (.int c1), (.int c2)] rfl rfl at_31) (rmMk l Z a0 hw ew n c0 c1 c2 _ X.old z O2 hz SA SH SL R_c0 R_c1 R_c2) (wd7 hw) (wd2 hw) (leB rfl) (leB rfl) (leB rfl) (leB rfl) all0 rfl ?_
  intro T vm h L v X K hC q
  obtain ⟨x, rfl, le_x, S_x⟩ := q
  refine X.astore (pc' := 36) #[.val (.int p1), .val (.int p2), .val (.int p3), .val (.int p4), .val (.int n), .val (.int c0), .val (.int c1), .val (.int c2), .val (.ref x), .unset] at_34 rfl rfl rfl ?_
  refine X.iconst (pc' := 37) (1 : Int32) at_36 rfl rfl ?_
  refine X.istore (pc' := 39) #[.val (.int p1), .val (.int p2), .val (.int p3), .val (.int p4), .val (.int n), .val (.int c0), .val (.int c1), .val (.int c2), .val (.ref x), .val (.int (1 : Int32))] at_37 rfl rfl ?_
  refine X.iload (pc' := 41) at_39 rfl rfl ?_
  refine X.iconst (pc' := 42) (1 : Int32) at_41 rfl rfl ?_
  rcases hn with rfl | rfl | rfl | rfl
  · refine X.icY (pc' := 56) at_42 (by decide) (by decide) (by decide) ?_
    refine X.iload (pc' := 58) at_56 rfl rfl ?_
    refine X.iconst (pc' := 59) (2 : Int32) at_58 rfl rfl ?_
    refine X.icY (pc' := 73) at_59 (by decide) (by decide) (by decide) ?_
    refine X.iload (pc' := 75) at_73 rfl rfl ?_
    refine X.iconst (pc' := 76) (3 : Int32) at_75 rfl rfl ?_
    refine X.icY (pc' := 90) at_76 (by decide) (by decide) (by decide) ?_
    refine X.aload (pc' := 92) at_90 rfl rfl rfl ?_
    refine X.callP (pc' := 95) (X.sStatic (wd30 hw) (wd31 hw) (wd32 hw) (wd33 hw) (by decide) rfl pd20 [(.ref x)] rfl rfl at_92) (rmIsF l Z a0 hw x _ X.old z O2 hz fm rf SF SA SH SL [] (by simp) S_x) (wd33 hw) (wd32 hw) (leB rfl) (leB rfl) (leB rfl) (leB rfl) rfl ?_
    intro T L v X q
    obtain ⟨vv, rfl, hv⟩ := q
    refine X.iload (pc' := 97) at_95 rfl rfl ?_
    have hve : vv = (1 : Int32) := by
      rcases hv with ⟨rfl, u⟩ | ⟨rfl, u⟩
      · rfl
      · exact absurd (noBad allN) u
    refine X.icN (pc' := 100) at_97 ((teq hve).2) rfl ?_
    refine X.iconst (pc' := 101) (1 : Int32) at_100 rfl rfl ?_
    refine X.goto (pc' := 105) at_101 (by decide) (by decide) ?_
    exact X.retIC (by simp) rfl at_105 (by decide) (by decide) ⟨_, rfl, rfl⟩
  · refine X.icN (pc' := 45) at_42 (by decide) rfl ?_
    refine X.iload (pc' := 47) at_45 rfl rfl ?_
    refine X.callP (pc' := 50) (X.sStatic (wd84 hw) (wd85 hw) (wd2 hw) (wd86 hw) (by decide) rfl pd21 [(.int c0)] rfl rfl at_47) (rmBad l Z a0 hw c0 _ X.old) (wd86 hw) (wd2 hw) (leB rfl) (leB rfl) (leB rfl) (leB rfl) rfl ?_
    intro T L v X q
    obtain ⟨b0, rfl, hb0⟩ := q
    rcases hb0 with ⟨rfl, t0⟩ | ⟨rfl, t0⟩
    · refine X.ifN (pc' := 53) at_50 (by decide) rfl ?_
      refine X.iconst (pc' := 54) (0 : Int32) at_53 rfl rfl ?_
      refine X.istore (pc' := 56) #[.val (.int p1), .val (.int p2), .val (.int p3), .val (.int p4), .val (.int (1 : Int32)), .val (.int c0), .val (.int c1), .val (.int c2), .val (.ref x), .val (.int (0 : Int32))] at_54 rfl rfl ?_
      refine X.iload (pc' := 58) at_56 rfl rfl ?_
      refine X.iconst (pc' := 59) (2 : Int32) at_58 rfl rfl ?_
      refine X.icY (pc' := 73) at_59 (by decide) (by decide) (by decide) ?_
      refine X.iload (pc' := 75) at_73 rfl rfl ?_
      refine X.iconst (pc' := 76) (3 : Int32) at_75 rfl rfl ?_
      refine X.icY (pc' := 90) at_76 (by decide) (by decide) (by decide) ?_
      refine X.aload (pc' := 92) at_90 rfl rfl rfl ?_
      refine X.callP (pc' := 95) (X.sStatic (wd30 hw) (wd31 hw) (wd32 hw) (wd33 hw) (by decide) rfl pd20 [(.ref x)] rfl rfl at_92) (rmIsF l Z a0 hw x _ X.old z O2 hz fm rf SF SA SH SL [c0] (by simp) S_x) (wd33 hw) (wd32 hw) (leB rfl) (leB rfl) (leB rfl) (leB rfl) rfl ?_
      intro T L v X q
      obtain ⟨vv, rfl, hv⟩ := q
      refine X.iload (pc' := 97) at_95 rfl rfl ?_
      have hve : vv = (0 : Int32) := by
        rcases hv with ⟨rfl, u⟩ | ⟨rfl, u⟩
        · exact absurd u (badIn (c := c0) (by simp) t0)
        · rfl
      refine X.icN (pc' := 100) at_97 ((teq hve).2) rfl ?_
      refine X.iconst (pc' := 101) (1 : Int32) at_100 rfl rfl ?_
      refine X.goto (pc' := 105) at_101 (by decide) (by decide) ?_
      exact X.retIC (by simp) rfl at_105 (by decide) (by decide) ⟨_, rfl, rfl⟩
    · refine X.ifY (pc' := 56) at_50 (by decide) (by decide) (by decide) ?_
      refine X.iload (pc' := 58) at_56 rfl rfl ?_
      refine X.iconst (pc' := 59) (2 : Int32) at_58 rfl rfl ?_
      refine X.icY (pc' := 73) at_59 (by decide) (by decide) (by decide) ?_
      refine X.iload (pc' := 75) at_73 rfl rfl ?_
      refine X.iconst (pc' := 76) (3 : Int32) at_75 rfl rfl ?_
      refine X.icY (pc' := 90) at_76 (by decide) (by decide) (by decide) ?_
      refine X.aload (pc' := 92) at_90 rfl rfl rfl ?_
      refine X.callP (pc' := 95) (X.sStatic (wd30 hw) (wd31 hw) (wd32 hw) (wd33 hw) (by decide) rfl pd20 [(.ref x)] rfl rfl at_92) (rmIsF l Z a0 hw x _ X.old z O2 hz fm rf SF SA SH SL [c0] (by simp) S_x) (wd33 hw) (wd32 hw) (leB rfl) (leB rfl) (leB rfl) (leB rfl) rfl ?_
      intro T L v X q
      obtain ⟨vv, rfl, hv⟩ := q
      refine X.iload (pc' := 97) at_95 rfl rfl ?_
      have hve : vv = (1 : Int32) := by
        rcases hv with ⟨rfl, u⟩ | ⟨rfl, u⟩
        · rfl
        · exact absurd (noBad (allC t0 allN)) u
      refine X.icN (pc' := 100) at_97 ((teq hve).2) rfl ?_
      refine X.iconst (pc' := 101) (1 : Int32) at_100 rfl rfl ?_
      refine X.goto (pc' := 105) at_101 (by decide) (by decide) ?_
      exact X.retIC (by simp) rfl at_105 (by decide) (by decide) ⟨_, rfl, rfl⟩
  · refine X.icN (pc' := 45) at_42 (by decide) rfl ?_
    refine X.iload (pc' := 47) at_45 rfl rfl ?_
    refine X.callP (pc' := 50) (X.sStatic (wd84 hw) (wd85 hw) (wd2 hw) (wd86 hw) (by decide) rfl pd21 [(.int c0)] rfl rfl at_47) (rmBad l Z a0 hw c0 _ X.old) (wd86 hw) (wd2 hw) (leB rfl) (leB rfl) (leB rfl) (leB rfl) rfl ?_
    intro T L v X q
    obtain ⟨b0, rfl, hb0⟩ := q
    rcases hb0 with ⟨rfl, t0⟩ | ⟨rfl, t0⟩
    · refine X.ifN (pc' := 53) at_50 (by decide) rfl ?_
      refine X.iconst (pc' := 54) (0 : Int32) at_53 rfl rfl ?_
      refine X.istore (pc' := 56) #[.val (.int p1), .val (.int p2), .val (.int p3), .val (.int p4), .val (.int (2 : Int32)), .val (.int c0), .val (.int c1), .val (.int c2), .val (.ref x), .val (.int (0 : Int32))] at_54 rfl rfl ?_
      refine X.iload (pc' := 58) at_56 rfl rfl ?_
      refine X.iconst (pc' := 59) (2 : Int32) at_58 rfl rfl ?_
      refine X.icN (pc' := 62) at_59 (by decide) rfl ?_
      refine X.iload (pc' := 64) at_62 rfl rfl ?_
      refine X.callP (pc' := 67) (X.sStatic (wd84 hw) (wd85 hw) (wd2 hw) (wd86 hw) (by decide) rfl pd21 [(.int c1)] rfl rfl at_64) (rmBad l Z a0 hw c1 _ X.old) (wd86 hw) (wd2 hw) (leB rfl) (leB rfl) (leB rfl) (leB rfl) rfl ?_
      intro T L v X q
      obtain ⟨b1, rfl, hb1⟩ := q
      rcases hb1 with ⟨rfl, t1⟩ | ⟨rfl, t1⟩
      · refine X.ifN (pc' := 70) at_67 (by decide) rfl ?_
        refine X.iconst (pc' := 71) (0 : Int32) at_70 rfl rfl ?_
        refine X.istore (pc' := 73) #[.val (.int p1), .val (.int p2), .val (.int p3), .val (.int p4), .val (.int (2 : Int32)), .val (.int c0), .val (.int c1), .val (.int c2), .val (.ref x), .val (.int (0 : Int32))] at_71 rfl rfl ?_
        refine X.iload (pc' := 75) at_73 rfl rfl ?_
        refine X.iconst (pc' := 76) (3 : Int32) at_75 rfl rfl ?_
        refine X.icY (pc' := 90) at_76 (by decide) (by decide) (by decide) ?_
        refine X.aload (pc' := 92) at_90 rfl rfl rfl ?_
        refine X.callP (pc' := 95) (X.sStatic (wd30 hw) (wd31 hw) (wd32 hw) (wd33 hw) (by decide) rfl pd20 [(.ref x)] rfl rfl at_92) (rmIsF l Z a0 hw x _ X.old z O2 hz fm rf SF SA SH SL [c0, c1] (by simp) S_x) (wd33 hw) (wd32 hw) (leB rfl) (leB rfl) (leB rfl) (leB rfl) rfl ?_
        intro T L v X q
        obtain ⟨vv, rfl, hv⟩ := q
        refine X.iload (pc' := 97) at_95 rfl rfl ?_
        have hve : vv = (0 : Int32) := by
          rcases hv with ⟨rfl, u⟩ | ⟨rfl, u⟩
          · exact absurd u (badIn (c := c0) (by simp) t0)
          · rfl
        refine X.icN (pc' := 100) at_97 ((teq hve).2) rfl ?_
        refine X.iconst (pc' := 101) (1 : Int32) at_100 rfl rfl ?_
        refine X.goto (pc' := 105) at_101 (by decide) (by decide) ?_
        exact X.retIC (by simp) rfl at_105 (by decide) (by decide) ⟨_, rfl, rfl⟩
      · refine X.ifY (pc' := 73) at_67 (by decide) (by decide) (by decide) ?_
        refine X.iload (pc' := 75) at_73 rfl rfl ?_
        refine X.iconst (pc' := 76) (3 : Int32) at_75 rfl rfl ?_
        refine X.icY (pc' := 90) at_76 (by decide) (by decide) (by decide) ?_
        refine X.aload (pc' := 92) at_90 rfl rfl rfl ?_
        refine X.callP (pc' := 95) (X.sStatic (wd30 hw) (wd31 hw) (wd32 hw) (wd33 hw) (by decide) rfl pd20 [(.ref x)] rfl rfl at_92) (rmIsF l Z a0 hw x _ X.old z O2 hz fm rf SF SA SH SL [c0, c1] (by simp) S_x) (wd33 hw) (wd32 hw) (leB rfl) (leB rfl) (leB rfl) (leB rfl) rfl ?_
        intro T L v X q
        obtain ⟨vv, rfl, hv⟩ := q
        refine X.iload (pc' := 97) at_95 rfl rfl ?_
        have hve : vv = (0 : Int32) := by
          rcases hv with ⟨rfl, u⟩ | ⟨rfl, u⟩
          · exact absurd u (badIn (c := c0) (by simp) t0)
          · rfl
        refine X.icN (pc' := 100) at_97 ((teq hve).2) rfl ?_
        refine X.iconst (pc' := 101) (1 : Int32) at_100 rfl rfl ?_
        refine X.goto (pc' := 105) at_101 (by decide) (by decide) ?_
        exact X.retIC (by simp) rfl at_105 (by decide) (by decide) ⟨_, rfl, rfl⟩
    · refine X.ifY (pc' := 56) at_50 (by decide) (by decide) (by decide) ?_
      refine X.iload (pc' := 58) at_56 rfl rfl ?_
      refine X.iconst (pc' := 59) (2 : Int32) at_58 rfl rfl ?_
      refine X.icN (pc' := 62) at_59 (by decide) rfl ?_
      refine X.iload (pc' := 64) at_62 rfl rfl ?_
      refine X.callP (pc' := 67) (X.sStatic (wd84 hw) (wd85 hw) (wd2 hw) (wd86 hw) (by decide) rfl pd21 [(.int c1)] rfl rfl at_64) (rmBad l Z a0 hw c1 _ X.old) (wd86 hw) (wd2 hw) (leB rfl) (leB rfl) (leB rfl) (leB rfl) rfl ?_
      intro T L v X q
      obtain ⟨b1, rfl, hb1⟩ := q
      rcases hb1 with ⟨rfl, t1⟩ | ⟨rfl, t1⟩
      · refine X.ifN (pc' := 70) at_67 (by decide) rfl ?_
        refine X.iconst (pc' := 71) (0 : Int32) at_70 rfl rfl ?_
        refine X.istore (pc' := 73) #[.val (.int p1), .val (.int p2), .val (.int p3), .val (.int p4), .val (.int (2 : Int32)), .val (.int c0), .val (.int c1), .val (.int c2), .val (.ref x), .val (.int (0 : Int32))] at_71 rfl rfl ?_
        refine X.iload (pc' := 75) at_73 rfl rfl ?_
        refine X.iconst (pc' := 76) (3 : Int32) at_75 rfl rfl ?_
        refine X.icY (pc' := 90) at_76 (by decide) (by decide) (by decide) ?_
        refine X.aload (pc' := 92) at_90 rfl rfl rfl ?_
        refine X.callP (pc' := 95) (X.sStatic (wd30 hw) (wd31 hw) (wd32 hw) (wd33 hw) (by decide) rfl pd20 [(.ref x)] rfl rfl at_92) (rmIsF l Z a0 hw x _ X.old z O2 hz fm rf SF SA SH SL [c0, c1] (by simp) S_x) (wd33 hw) (wd32 hw) (leB rfl) (leB rfl) (leB rfl) (leB rfl) rfl ?_
        intro T L v X q
        obtain ⟨vv, rfl, hv⟩ := q
        refine X.iload (pc' := 97) at_95 rfl rfl ?_
        have hve : vv = (0 : Int32) := by
          rcases hv with ⟨rfl, u⟩ | ⟨rfl, u⟩
          · exact absurd u (badIn (c := c1) (by simp) t1)
          · rfl
        refine X.icN (pc' := 100) at_97 ((teq hve).2) rfl ?_
        refine X.iconst (pc' := 101) (1 : Int32) at_100 rfl rfl ?_
        refine X.goto (pc' := 105) at_101 (by decide) (by decide) ?_
        exact X.retIC (by simp) rfl at_105 (by decide) (by decide) ⟨_, rfl, rfl⟩
      · refine X.ifY (pc' := 73) at_67 (by decide) (by decide) (by decide) ?_
        refine X.iload (pc' := 75) at_73 rfl rfl ?_
        refine X.iconst (pc' := 76) (3 : Int32) at_75 rfl rfl ?_
        refine X.icY (pc' := 90) at_76 (by decide) (by decide) (by decide) ?_
        refine X.aload (pc' := 92) at_90 rfl rfl rfl ?_
        refine X.callP (pc' := 95) (X.sStatic (wd30 hw) (wd31 hw) (wd32 hw) (wd33 hw) (by decide) rfl pd20 [(.ref x)] rfl rfl at_92) (rmIsF l Z a0 hw x _ X.old z O2 hz fm rf SF SA SH SL [c0, c1] (by simp) S_x) (wd33 hw) (wd32 hw) (leB rfl) (leB rfl) (leB rfl) (leB rfl) rfl ?_
        intro T L v X q
        obtain ⟨vv, rfl, hv⟩ := q
        refine X.iload (pc' := 97) at_95 rfl rfl ?_
        have hve : vv = (1 : Int32) := by
          rcases hv with ⟨rfl, u⟩ | ⟨rfl, u⟩
          · rfl
          · exact absurd (noBad (allC t0 (allC t1 allN))) u
        refine X.icN (pc' := 100) at_97 ((teq hve).2) rfl ?_
        refine X.iconst (pc' := 101) (1 : Int32) at_100 rfl rfl ?_
        refine X.goto (pc' := 105) at_101 (by decide) (by decide) ?_
        exact X.retIC (by simp) rfl at_105 (by decide) (by decide) ⟨_, rfl, rfl⟩
  · refine X.icN (pc' := 45) at_42 (by decide) rfl ?_
    refine X.iload (pc' := 47) at_45 rfl rfl ?_
    refine X.callP (pc' := 50) (X.sStatic (wd84 hw) (wd85 hw) (wd2 hw) (wd86 hw) (by decide) rfl pd21 [(.int c0)] rfl rfl at_47) (rmBad l Z a0 hw c0 _ X.old) (wd86 hw) (wd2 hw) (leB rfl) (leB rfl) (leB rfl) (leB rfl) rfl ?_
    intro T L v X q
    obtain ⟨b0, rfl, hb0⟩ := q
    rcases hb0 with ⟨rfl, t0⟩ | ⟨rfl, t0⟩
    · refine X.ifN (pc' := 53) at_50 (by decide) rfl ?_
      refine X.iconst (pc' := 54) (0 : Int32) at_53 rfl rfl ?_
      refine X.istore (pc' := 56) #[.val (.int p1), .val (.int p2), .val (.int p3), .val (.int p4), .val (.int (3 : Int32)), .val (.int c0), .val (.int c1), .val (.int c2), .val (.ref x), .val (.int (0 : Int32))] at_54 rfl rfl ?_
      refine X.iload (pc' := 58) at_56 rfl rfl ?_
      refine X.iconst (pc' := 59) (2 : Int32) at_58 rfl rfl ?_
      refine X.icN (pc' := 62) at_59 (by decide) rfl ?_
      refine X.iload (pc' := 64) at_62 rfl rfl ?_
      refine X.callP (pc' := 67) (X.sStatic (wd84 hw) (wd85 hw) (wd2 hw) (wd86 hw) (by decide) rfl pd21 [(.int c1)] rfl rfl at_64) (rmBad l Z a0 hw c1 _ X.old) (wd86 hw) (wd2 hw) (leB rfl) (leB rfl) (leB rfl) (leB rfl) rfl ?_
      intro T L v X q
      obtain ⟨b1, rfl, hb1⟩ := q
      rcases hb1 with ⟨rfl, t1⟩ | ⟨rfl, t1⟩
      · refine X.ifN (pc' := 70) at_67 (by decide) rfl ?_
        refine X.iconst (pc' := 71) (0 : Int32) at_70 rfl rfl ?_
        refine X.istore (pc' := 73) #[.val (.int p1), .val (.int p2), .val (.int p3), .val (.int p4), .val (.int (3 : Int32)), .val (.int c0), .val (.int c1), .val (.int c2), .val (.ref x), .val (.int (0 : Int32))] at_71 rfl rfl ?_
        refine X.iload (pc' := 75) at_73 rfl rfl ?_
        refine X.iconst (pc' := 76) (3 : Int32) at_75 rfl rfl ?_
        refine X.icN (pc' := 79) at_76 (by decide) rfl ?_
        refine X.iload (pc' := 81) at_79 rfl rfl ?_
        refine X.callP (pc' := 84) (X.sStatic (wd84 hw) (wd85 hw) (wd2 hw) (wd86 hw) (by decide) rfl pd21 [(.int c2)] rfl rfl at_81) (rmBad l Z a0 hw c2 _ X.old) (wd86 hw) (wd2 hw) (leB rfl) (leB rfl) (leB rfl) (leB rfl) rfl ?_
        intro T L v X q
        obtain ⟨b2, rfl, hb2⟩ := q
        rcases hb2 with ⟨rfl, t2⟩ | ⟨rfl, t2⟩
        · refine X.ifN (pc' := 87) at_84 (by decide) rfl ?_
          refine X.iconst (pc' := 88) (0 : Int32) at_87 rfl rfl ?_
          refine X.istore (pc' := 90) #[.val (.int p1), .val (.int p2), .val (.int p3), .val (.int p4), .val (.int (3 : Int32)), .val (.int c0), .val (.int c1), .val (.int c2), .val (.ref x), .val (.int (0 : Int32))] at_88 rfl rfl ?_
          refine X.aload (pc' := 92) at_90 rfl rfl rfl ?_
          refine X.callP (pc' := 95) (X.sStatic (wd30 hw) (wd31 hw) (wd32 hw) (wd33 hw) (by decide) rfl pd20 [(.ref x)] rfl rfl at_92) (rmIsF l Z a0 hw x _ X.old z O2 hz fm rf SF SA SH SL [c0, c1, c2] (by simp) S_x) (wd33 hw) (wd32 hw) (leB rfl) (leB rfl) (leB rfl) (leB rfl) rfl ?_
          intro T L v X q
          obtain ⟨vv, rfl, hv⟩ := q
          refine X.iload (pc' := 97) at_95 rfl rfl ?_
          have hve : vv = (0 : Int32) := by
            rcases hv with ⟨rfl, u⟩ | ⟨rfl, u⟩
            · exact absurd u (badIn (c := c0) (by simp) t0)
            · rfl
          refine X.icN (pc' := 100) at_97 ((teq hve).2) rfl ?_
          refine X.iconst (pc' := 101) (1 : Int32) at_100 rfl rfl ?_
          refine X.goto (pc' := 105) at_101 (by decide) (by decide) ?_
          exact X.retIC (by simp) rfl at_105 (by decide) (by decide) ⟨_, rfl, rfl⟩
        · refine X.ifY (pc' := 90) at_84 (by decide) (by decide) (by decide) ?_
          refine X.aload (pc' := 92) at_90 rfl rfl rfl ?_
          refine X.callP (pc' := 95) (X.sStatic (wd30 hw) (wd31 hw) (wd32 hw) (wd33 hw) (by decide) rfl pd20 [(.ref x)] rfl rfl at_92) (rmIsF l Z a0 hw x _ X.old z O2 hz fm rf SF SA SH SL [c0, c1, c2] (by simp) S_x) (wd33 hw) (wd32 hw) (leB rfl) (leB rfl) (leB rfl) (leB rfl) rfl ?_
          intro T L v X q
          obtain ⟨vv, rfl, hv⟩ := q
          refine X.iload (pc' := 97) at_95 rfl rfl ?_
          have hve : vv = (0 : Int32) := by
            rcases hv with ⟨rfl, u⟩ | ⟨rfl, u⟩
            · exact absurd u (badIn (c := c0) (by simp) t0)
            · rfl
          refine X.icN (pc' := 100) at_97 ((teq hve).2) rfl ?_
          refine X.iconst (pc' := 101) (1 : Int32) at_100 rfl rfl ?_
          refine X.goto (pc' := 105) at_101 (by decide) (by decide) ?_
          exact X.retIC (by simp) rfl at_105 (by decide) (by decide) ⟨_, rfl, rfl⟩
      · refine X.ifY (pc' := 73) at_67 (by decide) (by decide) (by decide) ?_
        refine X.iload (pc' := 75) at_73 rfl rfl ?_
        refine X.iconst (pc' := 76) (3 : Int32) at_75 rfl rfl ?_
        refine X.icN (pc' := 79) at_76 (by decide) rfl ?_
        refine X.iload (pc' := 81) at_79 rfl rfl ?_
        refine X.callP (pc' := 84) (X.sStatic (wd84 hw) (wd85 hw) (wd2 hw) (wd86 hw) (by decide) rfl pd21 [(.int c2)] rfl rfl at_81) (rmBad l Z a0 hw c2 _ X.old) (wd86 hw) (wd2 hw) (leB rfl) (leB rfl) (leB rfl) (leB rfl) rfl ?_
        intro T L v X q
        obtain ⟨b2, rfl, hb2⟩ := q
        rcases hb2 with ⟨rfl, t2⟩ | ⟨rfl, t2⟩
        · refine X.ifN (pc' := 87) at_84 (by decide) rfl ?_
          refine X.iconst (pc' := 88) (0 : Int32) at_87 rfl rfl ?_
          refine X.istore (pc' := 90) #[.val (.int p1), .val (.int p2), .val (.int p3), .val (.int p4), .val (.int (3 : Int32)), .val (.int c0), .val (.int c1), .val (.int c2), .val (.ref x), .val (.int (0 : Int32))] at_88 rfl rfl ?_
          refine X.aload (pc' := 92) at_90 rfl rfl rfl ?_
          refine X.callP (pc' := 95) (X.sStatic (wd30 hw) (wd31 hw) (wd32 hw) (wd33 hw) (by decide) rfl pd20 [(.ref x)] rfl rfl at_92) (rmIsF l Z a0 hw x _ X.old z O2 hz fm rf SF SA SH SL [c0, c1, c2] (by simp) S_x) (wd33 hw) (wd32 hw) (leB rfl) (leB rfl) (leB rfl) (leB rfl) rfl ?_
          intro T L v X q
          obtain ⟨vv, rfl, hv⟩ := q
          refine X.iload (pc' := 97) at_95 rfl rfl ?_
          have hve : vv = (0 : Int32) := by
            rcases hv with ⟨rfl, u⟩ | ⟨rfl, u⟩
            · exact absurd u (badIn (c := c0) (by simp) t0)
            · rfl
          refine X.icN (pc' := 100) at_97 ((teq hve).2) rfl ?_
          refine X.iconst (pc' := 101) (1 : Int32) at_100 rfl rfl ?_
          refine X.goto (pc' := 105) at_101 (by decide) (by decide) ?_
          exact X.retIC (by simp) rfl at_105 (by decide) (by decide) ⟨_, rfl, rfl⟩
        · refine X.ifY (pc' := 90) at_84 (by decide) (by decide) (by decide) ?_
          refine X.aload (pc' := 92) at_90 rfl rfl rfl ?_
          refine X.callP (pc' := 95) (X.sStatic (wd30 hw) (wd31 hw) (wd32 hw) (wd33 hw) (by decide) rfl pd20 [(.ref x)] rfl rfl at_92) (rmIsF l Z a0 hw x _ X.old z O2 hz fm rf SF SA SH SL [c0, c1, c2] (by simp) S_x) (wd33 hw) (wd32 hw) (leB rfl) (leB rfl) (leB rfl) (leB rfl) rfl ?_
          intro T L v X q
          obtain ⟨vv, rfl, hv⟩ := q
          refine X.iload (pc' := 97) at_95 rfl rfl ?_
          have hve : vv = (0 : Int32) := by
            rcases hv with ⟨rfl, u⟩ | ⟨rfl, u⟩
            · exact absurd u (badIn (c := c0) (by simp) t0)
            · rfl
          refine X.icN (pc' := 100) at_97 ((teq hve).2) rfl ?_
          refine X.iconst (pc' := 101) (1 : Int32) at_100 rfl rfl ?_
          refine X.goto (pc' := 105) at_101 (by decide) (by decide) ?_
          exact X.retIC (by simp) rfl at_105 (by decide) (by decide) ⟨_, rfl, rfl⟩
    · refine X.ifY (pc' := 56) at_50 (by decide) (by decide) (by decide) ?_
      refine X.iload (pc' := 58) at_56 rfl rfl ?_
      refine X.iconst (pc' := 59) (2 : Int32) at_58 rfl rfl ?_
      refine X.icN (pc' := 62) at_59 (by decide) rfl ?_
      refine X.iload (pc' := 64) at_62 rfl rfl ?_
      refine X.callP (pc' := 67) (X.sStatic (wd84 hw) (wd85 hw) (wd2 hw) (wd86 hw) (by decide) rfl pd21 [(.int c1)] rfl rfl at_64) (rmBad l Z a0 hw c1 _ X.old) (wd86 hw) (wd2 hw) (leB rfl) (leB rfl) (leB rfl) (leB rfl) rfl ?_
      intro T L v X q
      obtain ⟨b1, rfl, hb1⟩ := q
      rcases hb1 with ⟨rfl, t1⟩ | ⟨rfl, t1⟩
      · refine X.ifN (pc' := 70) at_67 (by decide) rfl ?_
        refine X.iconst (pc' := 71) (0 : Int32) at_70 rfl rfl ?_
        refine X.istore (pc' := 73) #[.val (.int p1), .val (.int p2), .val (.int p3), .val (.int p4), .val (.int (3 : Int32)), .val (.int c0), .val (.int c1), .val (.int c2), .val (.ref x), .val (.int (0 : Int32))] at_71 rfl rfl ?_
        refine X.iload (pc' := 75) at_73 rfl rfl ?_
        refine X.iconst (pc' := 76) (3 : Int32) at_75 rfl rfl ?_
        refine X.icN (pc' := 79) at_76 (by decide) rfl ?_
        refine X.iload (pc' := 81) at_79 rfl rfl ?_
        refine X.callP (pc' := 84) (X.sStatic (wd84 hw) (wd85 hw) (wd2 hw) (wd86 hw) (by decide) rfl pd21 [(.int c2)] rfl rfl at_81) (rmBad l Z a0 hw c2 _ X.old) (wd86 hw) (wd2 hw) (leB rfl) (leB rfl) (leB rfl) (leB rfl) rfl ?_
        intro T L v X q
        obtain ⟨b2, rfl, hb2⟩ := q
        rcases hb2 with ⟨rfl, t2⟩ | ⟨rfl, t2⟩
        · refine X.ifN (pc' := 87) at_84 (by decide) rfl ?_
          refine X.iconst (pc' := 88) (0 : Int32) at_87 rfl rfl ?_
          refine X.istore (pc' := 90) #[.val (.int p1), .val (.int p2), .val (.int p3), .val (.int p4), .val (.int (3 : Int32)), .val (.int c0), .val (.int c1), .val (.int c2), .val (.ref x), .val (.int (0 : Int32))] at_88 rfl rfl ?_
          refine X.aload (pc' := 92) at_90 rfl rfl rfl ?_
          refine X.callP (pc' := 95) (X.sStatic (wd30 hw) (wd31 hw) (wd32 hw) (wd33 hw) (by decide) rfl pd20 [(.ref x)] rfl rfl at_92) (rmIsF l Z a0 hw x _ X.old z O2 hz fm rf SF SA SH SL [c0, c1, c2] (by simp) S_x) (wd33 hw) (wd32 hw) (leB rfl) (leB rfl) (leB rfl) (leB rfl) rfl ?_
          intro T L v X q
          obtain ⟨vv, rfl, hv⟩ := q
          refine X.iload (pc' := 97) at_95 rfl rfl ?_
          have hve : vv = (0 : Int32) := by
            rcases hv with ⟨rfl, u⟩ | ⟨rfl, u⟩
            · exact absurd u (badIn (c := c1) (by simp) t1)
            · rfl
          refine X.icN (pc' := 100) at_97 ((teq hve).2) rfl ?_
          refine X.iconst (pc' := 101) (1 : Int32) at_100 rfl rfl ?_
          refine X.goto (pc' := 105) at_101 (by decide) (by decide) ?_
          exact X.retIC (by simp) rfl at_105 (by decide) (by decide) ⟨_, rfl, rfl⟩
        · refine X.ifY (pc' := 90) at_84 (by decide) (by decide) (by decide) ?_
          refine X.aload (pc' := 92) at_90 rfl rfl rfl ?_
          refine X.callP (pc' := 95) (X.sStatic (wd30 hw) (wd31 hw) (wd32 hw) (wd33 hw) (by decide) rfl pd20 [(.ref x)] rfl rfl at_92) (rmIsF l Z a0 hw x _ X.old z O2 hz fm rf SF SA SH SL [c0, c1, c2] (by simp) S_x) (wd33 hw) (wd32 hw) (leB rfl) (leB rfl) (leB rfl) (leB rfl) rfl ?_
          intro T L v X q
          obtain ⟨vv, rfl, hv⟩ := q
          refine X.iload (pc' := 97) at_95 rfl rfl ?_
          have hve : vv = (0 : Int32) := by
            rcases hv with ⟨rfl, u⟩ | ⟨rfl, u⟩
            · exact absurd u (badIn (c := c1) (by simp) t1)
            · rfl
          refine X.icN (pc' := 100) at_97 ((teq hve).2) rfl ?_
          refine X.iconst (pc' := 101) (1 : Int32) at_100 rfl rfl ?_
          refine X.goto (pc' := 105) at_101 (by decide) (by decide) ?_
          exact X.retIC (by simp) rfl at_105 (by decide) (by decide) ⟨_, rfl, rfl⟩
      · refine X.ifY (pc' := 73) at_67 (by decide) (by decide) (by decide) ?_
        refine X.iload (pc' := 75) at_73 rfl rfl ?_
        refine X.iconst (pc' := 76) (3 : Int32) at_75 rfl rfl ?_
        refine X.icN (pc' := 79) at_76 (by decide) rfl ?_
        refine X.iload (pc' := 81) at_79 rfl rfl ?_
        refine X.callP (pc' := 84) (X.sStatic (wd84 hw) (wd85 hw) (wd2 hw) (wd86 hw) (by decide) rfl pd21 [(.int c2)] rfl rfl at_81) (rmBad l Z a0 hw c2 _ X.old) (wd86 hw) (wd2 hw) (leB rfl) (leB rfl) (leB rfl) (leB rfl) rfl ?_
        intro T L v X q
        obtain ⟨b2, rfl, hb2⟩ := q
        rcases hb2 with ⟨rfl, t2⟩ | ⟨rfl, t2⟩
        · refine X.ifN (pc' := 87) at_84 (by decide) rfl ?_
          refine X.iconst (pc' := 88) (0 : Int32) at_87 rfl rfl ?_
          refine X.istore (pc' := 90) #[.val (.int p1), .val (.int p2), .val (.int p3), .val (.int p4), .val (.int (3 : Int32)), .val (.int c0), .val (.int c1), .val (.int c2), .val (.ref x), .val (.int (0 : Int32))] at_88 rfl rfl ?_
          refine X.aload (pc' := 92) at_90 rfl rfl rfl ?_
          refine X.callP (pc' := 95) (X.sStatic (wd30 hw) (wd31 hw) (wd32 hw) (wd33 hw) (by decide) rfl pd20 [(.ref x)] rfl rfl at_92) (rmIsF l Z a0 hw x _ X.old z O2 hz fm rf SF SA SH SL [c0, c1, c2] (by simp) S_x) (wd33 hw) (wd32 hw) (leB rfl) (leB rfl) (leB rfl) (leB rfl) rfl ?_
          intro T L v X q
          obtain ⟨vv, rfl, hv⟩ := q
          refine X.iload (pc' := 97) at_95 rfl rfl ?_
          have hve : vv = (0 : Int32) := by
            rcases hv with ⟨rfl, u⟩ | ⟨rfl, u⟩
            · exact absurd u (badIn (c := c2) (by simp) t2)
            · rfl
          refine X.icN (pc' := 100) at_97 ((teq hve).2) rfl ?_
          refine X.iconst (pc' := 101) (1 : Int32) at_100 rfl rfl ?_
          refine X.goto (pc' := 105) at_101 (by decide) (by decide) ?_
          exact X.retIC (by simp) rfl at_105 (by decide) (by decide) ⟨_, rfl, rfl⟩
        · refine X.ifY (pc' := 90) at_84 (by decide) (by decide) (by decide) ?_
          refine X.aload (pc' := 92) at_90 rfl rfl rfl ?_
          refine X.callP (pc' := 95) (X.sStatic (wd30 hw) (wd31 hw) (wd32 hw) (wd33 hw) (by decide) rfl pd20 [(.ref x)] rfl rfl at_92) (rmIsF l Z a0 hw x _ X.old z O2 hz fm rf SF SA SH SL [c0, c1, c2] (by simp) S_x) (wd33 hw) (wd32 hw) (leB rfl) (leB rfl) (leB rfl) (leB rfl) rfl ?_
          intro T L v X q
          obtain ⟨vv, rfl, hv⟩ := q
          refine X.iload (pc' := 97) at_95 rfl rfl ?_
          have hve : vv = (1 : Int32) := by
            rcases hv with ⟨rfl, u⟩ | ⟨rfl, u⟩
            · rfl
            · exact absurd (noBad (allC t0 (allC t1 (allC t2 allN)))) u
          refine X.icN (pc' := 100) at_97 ((teq hve).2) rfl ?_
          refine X.iconst (pc' := 101) (1 : Int32) at_100 rfl rfl ?_
          refine X.goto (pc' := 105) at_101 (by decide) (by decide) ?_
          exact X.retIC (by simp) rfl at_105 (by decide) (by decide) ⟨_, rfl, rfl⟩
set_option maxRecDepth 65536 in
set_option maxHeartbeats 40000000 in
theorem comes_1 {Post : Tables → Env → Array Value → State → Outcome → State → Prop} (hpost : ∀ tb e args s v u, (limb_1_1.after args s (.returned v) u = true ∧ limb_1_2.after args s (.returned v) u = true ∧ True) → ReturnedEndW s (.returned v) u (Jvm.fieldLocs frame_1_writes args s ++ Jvm.arrayLocs frame_1_arrays args s ++ Jvm.staticLocs frame_1_statics s) 24 1152 → Post tb e args s (.returned v) u) :
    ArmFor flags0 classFile x code maxLocals ret World_1 tables_1 room_1 Calls_1 rest_1 Pre_1 Post := by
  intro l hfl _ _ p e ha hc hk s m args below hf hA hF happ hP
  obtain ⟨hcalls, hrest, hpre⟩ := hP
  obtain ⟨-, -, -, hnamed, -, -, -, hat⟩ := (Spec.applies_iff hf).mp happ
  obtain ⟨hg, hn⟩ := and_e (Cond.before_iff.mp (show (Jvm.Cond.and given_1 narrow_1).before args s = true from hpre))
  obtain ⟨h1, g0⟩ := and_e hg
  obtain ⟨k0, g1⟩ := and_e g0
  obtain ⟨k1, g2⟩ := and_e g1
  obtain ⟨k2, g3⟩ := and_e g2
  have k3 := g3
  obtain ⟨w0, w1, w2, w3, rfl⟩ : ∃ w0 w1 w2 w3 : Value, args = #[w0, w1, w2, w3] := by
    have hs : args.size = 4 := by simpa [Cond.value, given_1] using h1
    obtain ⟨L⟩ := args
    match L, hs with
    | [w0, w1, w2, w3], _ => exact ⟨w0, w1, w2, w3, rfl⟩
  have hw := fun d (hd : d ∈ tables_1) => atoms_spec (ws := Jvm.Cond.code x code maxLocals ret :: tables_1) hat d (List.mem_cons_of_mem _ hd)
  obtain ⟨hsets, hown0⟩ := atoms_of _ (rest_1_c_eq ▸ (show rest_1_c.before _ s = true from hrest))
  obtain ⟨i0, e0⟩ := is_v k0
  obtain rfl : w0 = (.int i0) := Option.some.inj e0
  obtain ⟨i1, e1⟩ := is_v k1
  obtain rfl : w1 = (.int i1) := Option.some.inj e1
  obtain ⟨i2, e2⟩ := is_v k2
  obtain rfl : w2 = (.int i2) := Option.some.inj e2
  obtain ⟨i3, e3⟩ := is_v k3
  obtain rfl : w3 = (.int i3) := Option.some.inj e3
  have hcw := hsets _ (List.mem_of_getElem? (i := 2) rfl)
  have ncs := not_v (Cond.before_iff.mp hcw)
  obtain ⟨zcs, ecs⟩ := is_v (Cond.before_iff.mp (hsets _ (List.mem_of_getElem? (i := 1) rfl)))
  have O2 : Sta s s.heap "java/lang/String" "COMPACT_STRINGS" "Z" (.int zcs) := Sta.start ecs (Or.inl (hsets _ (List.mem_of_getElem? (i := 0) rfl)))
  have hcs : ¬ (zcs = (0 : Int32)) := gotF (Cond.eq_ints ecs (Term.int_eval (0))) ncs
  have SA : Sta s s.heap "java/lang/StringUTF16" "$assertionsDisabled" "Z" (.int 1) := Sta.start (eqI_v (Cond.before_iff.mp (hsets _ (List.mem_of_getElem? (i := 12) rfl)))) (Or.inl (hsets _ (List.mem_of_getElem? (i := 11) rfl)))
  have SH : Sta s s.heap "java/lang/StringUTF16" "HI_BYTE_SHIFT" "I" (.int 0) := Sta.start (eqI_v (Cond.before_iff.mp (hsets _ (List.mem_of_getElem? (i := 15) rfl)))) (Or.inl (hsets _ (List.mem_of_getElem? (i := 14) rfl)))
  have SL : Sta s s.heap "java/lang/StringUTF16" "LO_BYTE_SHIFT" "I" (.int 8) := Sta.start (eqI_v (Cond.before_iff.mp (hsets _ (List.mem_of_getElem? (i := 18) rfl)))) (Or.inl (hsets _ (List.mem_of_getElem? (i := 17) rfl)))
  obtain ⟨fm, efm, rf⟩ := isR_v (Cond.before_iff.mp (hsets _ (List.mem_of_getElem? (i := 8) rfl)))
  have SF : Sta s s.heap "jdk/internal/util/Preconditions" "SIOOBE_FORMATTER" "Ljava/util/function/BiFunction;" fm := Sta.start efm (Or.inl (hsets _ (List.mem_of_getElem? (i := 7) rfl)))
  have HC : CHv s consts_1 s.vm s.heap := CHv.start (a0 := _) (ew1 hw) (fun q hq => hcalls.1 q hq) hcw (wd23 hw) (wd9 hw)
  obtain ⟨n, o, h1, h2, h3, v, L, rfl, ⟨⟨w, rfl, rfl⟩, N, -, -⟩, -, hq⟩ := rm0 l s _ hw (ew1 hw) i0 i1 i2 i3 s.heap ⟨Nat.le_refl _, fun _ _ q => q⟩ zcs O2 hcs fm rf SF SA SH SL p e ha hc hk s m _ below hf ((Spec.applies_iff_loose hf).mp happ).1 ⟨rfl, State.Warmed39.refl s, rfl, HC⟩ trivial
  refine ⟨n, _, h1, h2, h3, hpost _ _ _ _ _ _ ⟨Cond.after_iff.mpr rfl, Cond.after_iff.mpr (eq_i res_at (Term.int_eval (1)) rfl), trivial⟩ ⟨hq.1, hq.2.1, hq.2.2.1, (hq.2.2.2.sift fun y hy => Or.inr (N y hy)).mono (by decide) (by decide)⟩⟩
theorem main_1_1 : Claimed_1_1 := comes_1 fun _ _ _ _ _ _ h hF => ⟨h.1, hF⟩
theorem main_1_2 : Claimed_1_2 := comes_1 fun _ _ _ _ _ _ h hF => ⟨h.2.1, hF⟩
end Jvm.Pilot.@@N@@
namespace Jvm.Pilot.@@N@@
open Jvm Jvm.ClassFile Sem Op Lib Jvm.Free Jvm.Stand Jvm.Pilot.@@N@@.Jvm.D
/-! MADE BY PROGRAM (witnessworld.py) out of the Statement's table words and the real class files: 21 classes; the members and pool entries that the words name. The judged class is class 1, her method 4. -/
namespace start1
open Jvm.ClassFile
def u (s : String) : CpInfo := .utf8 (stringToUtf16 s)
/-- a pool by its gaps: so many unusable entries, then the entry; so many at the end -/
def gap : Nat → List CpInfo → List CpInfo
  | 0, r => r
  | n + 1, r => .unusable :: gap n r
def poolList (es : List (Nat × CpInfo)) (last : Nat) : List CpInfo := es.foldr (fun e r => gap e.1 (e.2 :: r)) (gap last [])
def pool (es : List (Nat × CpInfo)) (last : Nat) : Array CpInfo := ⟨poolList es last⟩
def fileOf (pool : Array CpInfo) (this : Nat) (attrs : Array Attribute := #[]) (ms : Array MethodInfo := #[]) (fl : Nat := 33) (sup : Nat := 0) (ifs : Array Nat := #[]) (fds : Array FieldInfo := #[]) : ClassFile where
  minorVersion := 0
  majorVersion := 65
  constantPool := pool
  accessFlags := fl
  thisClass := this
  superClass := sup
  interfaces := ifs
  fields := fds
  methods := ms
  attributes := attrs
def plain (name : String) (sup : Option ClassId) : Class where
  name := name
  kind := .ordinary
  loader := none
  accessFlags := 33
  super := sup
  interfaces := #[]
  cf := none
  fields := #[]
  methods := #[]
  instanceTypes := #[]
  staticTypes := #[]
  resolved := #[]
  callSites := []
  init := .initialized
  statics := none
  mirror := none

def pool0 : Array CpInfo := pool [(5, u "<init>"), (0, u "()V"), (1, .class_ 10), (1, u "java/lang/Object")] 113

def k0c0 : Code := { maxStack := 0, maxLocals := 1, code := object_method_1_code, exceptionTable := #[], attributes := #[] }
def k0m0 : Method := { name := "<init>", desc := "()V", sig := { parameters := [], returnType := none }, accessFlags := 1, code := some k0c0 }
/-- java/lang/Object -/
def k0 : Class := { plain "java/lang/Object" none with
  accessFlags := 33
  interfaces := #[]
  cf := some (fileOf pool0 8 #[] #[{ accessFlags := 1, nameIndex := 5, descriptorIndex := 6, attributes := #[] }] 33 0 #[] #[])
  fields := #[]
  methods := #[k0m0]
  instanceTypes := #[]
  staticTypes := #[]
  resolved := Array.replicate 124 none
  statics := none }

def pool1 : Array CpInfo := pool [(2, .class_ 4), (1, u "java/lang/Object"), (0, u "<init>"), (0, u "()V"), (0, .integer 65535), (0, .class_ 9), (0, u "java/lang/String"), (0, .methodref 8 11), (0, .nameAndType 5 12), (0, u "([C)V"), (0, .methodref 14 15), (0, .class_ 16), (0, .nameAndType 17 18), (0, u "com/example/treegraft/treegraft/files/TextFilesIsFieldPinLaw"), (0, u "draw"), (0, u "(I)C"), (0, .methodref 14 20), (0, .nameAndType 21 22), (0, u "make"), (0, u "(ICCC)Ljava/lang/String;"), (0, .methodref 14 24), (0, .nameAndType 25 26), (0, u "bad"), (0, u "(C)Z"), (0, .methodref 28 29), (0, .class_ 30), (0, .nameAndType 31 32), (0, u "com/example/treegraft/treegraft/files/TextFiles"), (0, u "isField"), (0, u "(Ljava/lang/String;)Z"), (3, u "law"), (0, u "(IIII)Z")] 2

def k1m0 : Method := { name := "<init>", desc := "()V", sig := { parameters := [], returnType := none }, accessFlags := 2, code := none }
def k1c1 : Code := { maxStack := 2, maxLocals := 1, code := method_2_code, exceptionTable := #[], attributes := #[] }
def k1m1 : Method := { name := "draw", desc := "(I)C", sig := { parameters := [.int], returnType := some .char }, accessFlags := 10, code := some k1c1 }
def k1c2 : Code := { maxStack := 2, maxLocals := 1, code := method_3_code, exceptionTable := #[], attributes := #[] }
def k1m2 : Method := { name := "bad", desc := "(C)Z", sig := { parameters := [.char], returnType := some .boolean }, accessFlags := 10, code := some k1c2 }
def k1c3 : Code := { maxStack := 6, maxLocals := 4, code := method_4_code, exceptionTable := #[], attributes := #[] }
def k1m3 : Method := { name := "make", desc := "(ICCC)Ljava/lang/String;", sig := { parameters := [.int, .char, .char, .char], returnType := some (.object "java/lang/String") }, accessFlags := 10, code := some k1c3 }
def k1c4 : Code := { maxStack := 4, maxLocals := 10, code := code, exceptionTable := #[], attributes := #[] }
def k1m4 : Method := { name := "law", desc := "(IIII)Z", sig := { parameters := [.int, .int, .int, .int], returnType := some .boolean }, accessFlags := 9, code := some k1c4 }
/-- com/example/treegraft/treegraft/files/TextFilesIsFieldPinLaw -/
def k1 : Class := { plain "com/example/treegraft/treegraft/files/TextFilesIsFieldPinLaw" (some 0) with
  accessFlags := 49
  interfaces := #[]
  cf := some (fileOf pool1 14 #[] #[{ accessFlags := 2, nameIndex := 5, descriptorIndex := 6, attributes := #[] }, { accessFlags := 10, nameIndex := 17, descriptorIndex := 18, attributes := #[] }, { accessFlags := 10, nameIndex := 25, descriptorIndex := 26, attributes := #[] }, { accessFlags := 10, nameIndex := 21, descriptorIndex := 22, attributes := #[] }, { accessFlags := 9, nameIndex := 36, descriptorIndex := 37, attributes := #[] }] 49 2 #[] #[])
  fields := #[]
  methods := #[k1m0, k1m1, k1m2, k1m3, k1m4]
  instanceTypes := #[]
  staticTypes := #[]
  resolved := Array.replicate 40 none
  statics := none }

def pool2 : Array CpInfo := pool [(1, .class_ 2), (0, u "java/io/Serializable"), (0, .class_ 4), (0, u "java/lang/Object")] 2

/-- java/io/Serializable -/
def k2 : Class := { plain "java/io/Serializable" (some 0) with
  accessFlags := 1537
  interfaces := #[]
  cf := some (fileOf pool2 1 #[] #[] 1537 3 #[] #[])
  fields := #[]
  methods := #[]
  instanceTypes := #[]
  staticTypes := #[]
  resolved := Array.replicate 7 none
  statics := none }

def pool3 : Array CpInfo := pool [(1, .class_ 2), (0, u "java/lang/Comparable"), (0, .class_ 4), (0, u "java/lang/Object")] 7

/-- java/lang/Comparable -/
def k3 : Class := { plain "java/lang/Comparable" (some 0) with
  accessFlags := 1537
  interfaces := #[]
  cf := some (fileOf pool3 1 #[] #[] 1537 3 #[] #[])
  fields := #[]
  methods := #[]
  instanceTypes := #[]
  staticTypes := #[]
  resolved := Array.replicate 12 none
  statics := none }

def pool4 : Array CpInfo := pool [(2, .class_ 4), (1, u "java/lang/CharSequence"), (42, .class_ 48), (0, u "java/lang/CharSequence$1CodePointIterator"), (10, .class_ 60), (0, u "java/lang/CharSequence$1CharIterator"), (5, .class_ 67), (0, u "java/lang/Object")] 63

/-- java/lang/CharSequence -/
def k4 : Class := { plain "java/lang/CharSequence" (some 0) with
  accessFlags := 1537
  interfaces := #[]
  cf := some (fileOf pool4 2 #[.nestMembers #[47, 59]] #[] 1537 66 #[] #[])
  fields := #[]
  methods := #[]
  instanceTypes := #[]
  staticTypes := #[]
  resolved := Array.replicate 131 none
  statics := none }

def pool5 : Array CpInfo := pool [(1, .class_ 2), (0, u "java/lang/constant/Constable"), (0, .class_ 4), (0, u "java/lang/Object")] 6

/-- java/lang/constant/Constable -/
def k5 : Class := { plain "java/lang/constant/Constable" (some 0) with
  accessFlags := 1537
  interfaces := #[]
  cf := some (fileOf pool5 1 #[] #[] 1537 3 #[] #[])
  fields := #[]
  methods := #[]
  instanceTypes := #[]
  staticTypes := #[]
  resolved := Array.replicate 11 none
  statics := none }

def pool6 : Array CpInfo := pool [(1, .class_ 2), (0, u "java/lang/constant/ConstantDesc"), (0, .class_ 4), (0, u "java/lang/Object")] 32

/-- java/lang/constant/ConstantDesc -/
def k6 : Class := { plain "java/lang/constant/ConstantDesc" (some 0) with
  accessFlags := 1537
  interfaces := #[]
  cf := some (fileOf pool6 1 #[] #[] 1537 3 #[] #[])
  fields := #[]
  methods := #[]
  instanceTypes := #[]
  staticTypes := #[]
  resolved := Array.replicate 37 none
  statics := none }

def pool7 : Array CpInfo := pool [(1, .methodref 2 3), (0, .class_ 4), (0, .nameAndType 5 6), (0, u "java/lang/Object"), (0, u "<init>"), (0, u "()V"), (0, .string 8), (0, u ""), (0, .fieldref 10 11), (0, .class_ 12), (0, .nameAndType 13 14), (0, u "java/lang/String"), (0, u "value"), (0, u "[B"), (0, .fieldref 10 16), (0, .nameAndType 17 18), (0, u "coder"), (0, u "B"), (2, u "hash"), (0, u "I"), (2, u "hashIsZero"), (0, u "Z"), (0, .methodref 10 28), (0, .nameAndType 5 29), (0, u "([CIILjava/lang/Void;)V"), (8, .fieldref 10 39), (0, .nameAndType 40 26), (0, u "COMPACT_STRINGS"), (1, .class_ 44), (1, u "java/lang/StringUTF16"), (0, u "compress"), (1, .methodref 42 48), (0, .nameAndType 49 50), (0, u "coderFromArrayLen"), (0, u "([BI)B"), (56, .class_ 109), (1, u "java/lang/StringLatin1"), (32, u "()Z"), (34, .methodref 42 178), (0, .nameAndType 45 179), (0, u "([CII)[B"), (154, u "()I"), (0, .methodref 10 336), (0, .nameAndType 17 337), (0, u "()B"), (154, .methodref 10 493), (0, .nameAndType 494 142), (0, u "isLatin1"), (10, .methodref 10 506), (0, .nameAndType 507 334), (0, u "length"), (5, u "checkFromToIndex"), (9, u "checkBoundsBeginEnd"), (0, u "(III)V"), (50, .class_ 576), (0, u "java/lang/CharSequence"), (22, u "CASE_INSENSITIVE_ORDER"), (0, u "Ljava/util/Comparator;"), (32, .methodref 10 634), (0, .nameAndType 635 636), (0, u "indexOf"), (0, u "(II)I"), (0, .methodref 107 638), (0, .nameAndType 635 639), (0, u "([BIII)I"), (0, .methodref 42 638), (124, u "(I)I"), (244, u "([C)V"), (42, .fieldref 1054 1055), (0, .class_ 1056), (0, .nameAndType 1057 1058), (0, u "jdk/internal/util/Preconditions"), (0, u "SIOOBE_FORMATTER"), (0, u "Ljava/util/function/BiFunction;"), (3, .methodref 1054 1063), (0, .nameAndType 513 1064), (0, u "(IIILjava/util/function/BiFunction;)I"), (36, u "serialPersistentFields"), (0, u "[Ljava/io/ObjectStreamField;"), (0, .class_ 1104), (0, u "java/lang/String$CaseInsensitiveComparator"), (1, .class_ 1107), (0, u "java/io/Serializable"), (0, .class_ 1109), (0, u "java/lang/Comparable"), (0, .class_ 1111), (0, u "java/lang/constant/Constable"), (0, .class_ 1113), (0, u "java/lang/constant/ConstantDesc"), (2, u "serialVersionUID"), (0, u "J"), (3, u "REPL"), (0, u "C"), (2, u "LATIN1"), (1, u "UTF16")] 323

def k7m0 : Method := { name := "<init>", desc := "()V", sig := { parameters := [], returnType := none }, accessFlags := 1, code := none }
def k7c1 : Code := { maxStack := 5, maxLocals := 2, code := jdk_42_method_3_code, exceptionTable := #[], attributes := #[] }
def k7m1 : Method := { name := "<init>", desc := "([C)V", sig := { parameters := [(.array .char)], returnType := none }, accessFlags := 1, code := some k7c1 }
def k7c2 : Code := { maxStack := 2, maxLocals := 1, code := jdk_42_method_54_code, exceptionTable := #[], attributes := #[] }
def k7m2 : Method := { name := "length", desc := "()I", sig := { parameters := [], returnType := some .int }, accessFlags := 1, code := some k7c2 }
def k7c3 : Code := { maxStack := 3, maxLocals := 2, code := jdk_42_method_79_code, exceptionTable := #[], attributes := #[] }
def k7m3 : Method := { name := "indexOf", desc := "(I)I", sig := { parameters := [.int], returnType := some .int }, accessFlags := 1, code := some k7c3 }
def k7c4 : Code := { maxStack := 4, maxLocals := 3, code := jdk_42_method_80_code, exceptionTable := #[], attributes := #[] }
def k7m4 : Method := { name := "indexOf", desc := "(II)I", sig := { parameters := [.int, .int], returnType := some .int }, accessFlags := 1, code := some k7c4 }
def k7c5 : Code := { maxStack := 4, maxLocals := 6, code := jdk_42_method_149_code, exceptionTable := #[], attributes := #[] }
def k7m5 : Method := { name := "<init>", desc := "([CIILjava/lang/Void;)V", sig := { parameters := [(.array .char), .int, .int, (.object "java/lang/Void")], returnType := none }, accessFlags := 2, code := some k7c5 }
def k7c6 : Code := { maxStack := 1, maxLocals := 1, code := jdk_42_method_152_code, exceptionTable := #[], attributes := #[] }
def k7m6 : Method := { name := "coder", desc := "()B", sig := { parameters := [], returnType := some .byte }, accessFlags := 0, code := some k7c6 }
def k7c7 : Code := { maxStack := 1, maxLocals := 1, code := jdk_42_method_154_code, exceptionTable := #[], attributes := #[] }
def k7m7 : Method := { name := "isLatin1", desc := "()Z", sig := { parameters := [], returnType := some .boolean }, accessFlags := 0, code := some k7c7 }
def k7c8 : Code := { maxStack := 4, maxLocals := 3, code := jdk_42_method_158_code, exceptionTable := #[], attributes := #[] }
def k7m8 : Method := { name := "checkBoundsBeginEnd", desc := "(III)V", sig := { parameters := [.int, .int, .int], returnType := none }, accessFlags := 8, code := some k7c8 }
/-- java/lang/String -/
def k7 : Class := { plain "java/lang/String" (some 0) with
  accessFlags := 49
  interfaces := #[2, 3, 4, 5, 6]
  cf := some (fileOf pool7 10 #[.nestMembers #[1103]] #[{ accessFlags := 1, nameIndex := 5, descriptorIndex := 6, attributes := #[] }, { accessFlags := 1, nameIndex := 5, descriptorIndex := 1010, attributes := #[] }, { accessFlags := 1, nameIndex := 507, descriptorIndex := 334, attributes := #[] }, { accessFlags := 1, nameIndex := 635, descriptorIndex := 765, attributes := #[] }, { accessFlags := 1, nameIndex := 635, descriptorIndex := 636, attributes := #[] }, { accessFlags := 2, nameIndex := 5, descriptorIndex := 29, attributes := #[] }, { accessFlags := 0, nameIndex := 17, descriptorIndex := 337, attributes := #[] }, { accessFlags := 0, nameIndex := 494, descriptorIndex := 142, attributes := #[] }, { accessFlags := 8, nameIndex := 523, descriptorIndex := 524, attributes := #[] }] 49 2 #[1106, 1108, 575, 1110, 1112] #[{ accessFlags := 18, nameIndex := 13, descriptorIndex := 14, attributes := #[] }, { accessFlags := 18, nameIndex := 17, descriptorIndex := 18, attributes := #[] }, { accessFlags := 2, nameIndex := 21, descriptorIndex := 22, attributes := #[] }, { accessFlags := 2, nameIndex := 25, descriptorIndex := 26, attributes := #[] }, { accessFlags := 26, nameIndex := 1116, descriptorIndex := 1117, attributes := #[] }, { accessFlags := 24, nameIndex := 40, descriptorIndex := 26, attributes := #[] }, { accessFlags := 26, nameIndex := 1101, descriptorIndex := 1102, attributes := #[] }, { accessFlags := 26, nameIndex := 1121, descriptorIndex := 1122, attributes := #[] }, { accessFlags := 25, nameIndex := 599, descriptorIndex := 600, attributes := #[] }, { accessFlags := 24, nameIndex := 1125, descriptorIndex := 18, attributes := #[] }, { accessFlags := 24, nameIndex := 1127, descriptorIndex := 18, attributes := #[] }])
  fields := #[{ name := "value", type := (.array .byte), accessFlags := 18, slot := 0, constantValue := 0 }, { name := "coder", type := .byte, accessFlags := 18, slot := 1, constantValue := 0 }, { name := "hash", type := .int, accessFlags := 2, slot := 2, constantValue := 0 }, { name := "hashIsZero", type := .boolean, accessFlags := 2, slot := 3, constantValue := 0 }, { name := "serialVersionUID", type := .long, accessFlags := 26, slot := 0, constantValue := 0 }, { name := "COMPACT_STRINGS", type := .boolean, accessFlags := 24, slot := 1, constantValue := 0 }, { name := "serialPersistentFields", type := (.array (.object "java/io/ObjectStreamField")), accessFlags := 26, slot := 2, constantValue := 0 }, { name := "REPL", type := .char, accessFlags := 26, slot := 3, constantValue := 0 }, { name := "CASE_INSENSITIVE_ORDER", type := (.object "java/util/Comparator"), accessFlags := 25, slot := 4, constantValue := 0 }, { name := "LATIN1", type := .byte, accessFlags := 24, slot := 5, constantValue := 0 }, { name := "UTF16", type := .byte, accessFlags := 24, slot := 6, constantValue := 0 }]
  methods := #[k7m0, k7m1, k7m2, k7m3, k7m4, k7m5, k7m6, k7m7, k7m8]
  instanceTypes := #[(.array .byte), .byte, .int, .boolean]
  staticTypes := #[.long, .boolean, (.array (.object "java/io/ObjectStreamField")), .char, (.object "java/util/Comparator"), .byte, .byte]
  resolved := Array.replicate 1451 none
  statics := some 0 }

def pool8 : Array CpInfo := pool [(2, .class_ 4), (1, u "java/lang/Object"), (0, u "<init>"), (0, u "()V"), (7, .class_ 16), (1, u "com/example/treegraft/treegraft/files/TextFiles"), (32, .methodref 50 51), (0, .class_ 52), (0, .nameAndType 53 54), (0, u "java/lang/String"), (0, u "indexOf"), (0, u "(I)I"), (47, u "BUFFER"), (0, u "I"), (10, u "isField"), (0, u "(Ljava/lang/String;)Z")] 19

def k8m0 : Method := { name := "<init>", desc := "()V", sig := { parameters := [], returnType := none }, accessFlags := 2, code := none }
def k8c1 : Code := { maxStack := 2, maxLocals := 1, code := prog_47_method_4_code, exceptionTable := #[], attributes := #[] }
def k8m1 : Method := { name := "isField", desc := "(Ljava/lang/String;)Z", sig := { parameters := [(.object "java/lang/String")], returnType := some .boolean }, accessFlags := 9, code := some k8c1 }
/-- com/example/treegraft/treegraft/files/TextFiles -/
def k8 : Class := { plain "com/example/treegraft/treegraft/files/TextFiles" (some 0) with
  accessFlags := 49
  interfaces := #[]
  cf := some (fileOf pool8 14 #[] #[{ accessFlags := 2, nameIndex := 5, descriptorIndex := 6, attributes := #[] }, { accessFlags := 9, nameIndex := 114, descriptorIndex := 115, attributes := #[] }] 49 2 #[] #[{ accessFlags := 26, nameIndex := 102, descriptorIndex := 103, attributes := #[] }])
  fields := #[{ name := "BUFFER", type := .int, accessFlags := 26, slot := 0, constantValue := 0 }]
  methods := #[k8m0, k8m1]
  instanceTypes := #[]
  staticTypes := #[.int]
  resolved := Array.replicate 135 none
  statics := none }

def pool9 : Array CpInfo := pool [(4, .class_ 6), (1, u "java/lang/Object"), (0, u "<init>"), (0, u "()V"), (5, .class_ 16), (1, u "java/lang/StringLatin1"), (21, .methodref 39 40), (0, .class_ 41), (0, .nameAndType 42 43), (0, u "java/lang/Math"), (0, u "min"), (0, u "(II)I"), (44, .methodref 14 89), (0, .nameAndType 90 91), (0, u "canEncode"), (0, u "(I)Z"), (0, .methodref 39 93), (0, .nameAndType 94 43), (0, u "max"), (0, .methodref 14 96), (0, .nameAndType 97 98), (0, u "indexOfChar"), (0, u "([BIII)I"), (2, u "indexOf"), (19, u "$assertionsDisabled"), (0, u "Z"), (98, .class_ 223), (1, u "java/lang/StringLatin1$LinesSpliterator"), (166, .class_ 391), (0, u "java/lang/StringLatin1$CharsSpliterator")] 3

def k9m0 : Method := { name := "<init>", desc := "()V", sig := { parameters := [], returnType := none }, accessFlags := 0, code := none }
def k9c1 : Code := { maxStack := 2, maxLocals := 1, code := jdk_43_method_4_code, exceptionTable := #[], attributes := #[] }
def k9m1 : Method := { name := "canEncode", desc := "(I)Z", sig := { parameters := [.int], returnType := some .boolean }, accessFlags := 9, code := some k9c1 }
def k9c2 : Code := { maxStack := 4, maxLocals := 4, code := jdk_43_method_22_code, exceptionTable := #[], attributes := #[] }
def k9m2 : Method := { name := "indexOf", desc := "([BIII)I", sig := { parameters := [(.array .byte), .int, .int, .int], returnType := some .int }, accessFlags := 9, code := some k9c2 }
def k9c3 : Code := { maxStack := 2, maxLocals := 6, code := jdk_43_method_23_code, exceptionTable := #[], attributes := #[] }
def k9m3 : Method := { name := "indexOfChar", desc := "([BIII)I", sig := { parameters := [(.array .byte), .int, .int, .int], returnType := some .int }, accessFlags := 10, code := some k9c3 }
/-- java/lang/StringLatin1 -/
def k9 : Class := { plain "java/lang/StringLatin1" (some 0) with
  accessFlags := 48
  interfaces := #[]
  cf := some (fileOf pool9 14 #[.nestMembers #[390, 221]] #[{ accessFlags := 0, nameIndex := 7, descriptorIndex := 8, attributes := #[] }, { accessFlags := 9, nameIndex := 90, descriptorIndex := 91, attributes := #[] }, { accessFlags := 9, nameIndex := 101, descriptorIndex := 98, attributes := #[] }, { accessFlags := 10, nameIndex := 97, descriptorIndex := 98, attributes := #[] }] 48 4 #[] #[{ accessFlags := 4120, nameIndex := 121, descriptorIndex := 122, attributes := #[] }])
  fields := #[{ name := "$assertionsDisabled", type := .boolean, accessFlags := 4120, slot := 0, constantValue := 0 }]
  methods := #[k9m0, k9m1, k9m2, k9m3]
  instanceTypes := #[]
  staticTypes := #[.boolean]
  resolved := Array.replicate 395 none
  statics := none }

def pool10 : Array CpInfo := pool [(1, .class_ 2), (0, u "java/lang/Math"), (1, .class_ 6), (1, u "java/lang/Object"), (0, u "<init>"), (0, u "()V"), (89, .class_ 100), (1, u "java/lang/Math$RandomNumberGeneratorHolder"), (71, u "negativeZeroFloatBits"), (0, u "J"), (2, u "negativeZeroDoubleBits"), (21, u "max"), (2, u "min"), (43, u "$assertionsDisabled"), (0, u "Z"), (88, u "(II)I"), (2, u "twoToTheDoubleScaleDown"), (0, u "D"), (4, u "twoToTheDoubleScaleUp"), (9, u "E"), (3, u "PI"), (2, u "TAU"), (2, u "DEGREES_TO_RADIANS"), (0, u "RADIANS_TO_DEGREES")] 94

def k10m0 : Method := { name := "<init>", desc := "()V", sig := { parameters := [], returnType := none }, accessFlags := 2, code := none }
def k10c1 : Code := { maxStack := 2, maxLocals := 2, code := jdk_29_method_65_code, exceptionTable := #[], attributes := #[] }
def k10m1 : Method := { name := "max", desc := "(II)I", sig := { parameters := [.int, .int], returnType := some .int }, accessFlags := 9, code := some k10c1 }
def k10c2 : Code := { maxStack := 2, maxLocals := 2, code := jdk_29_method_69_code, exceptionTable := #[], attributes := #[] }
def k10m2 : Method := { name := "min", desc := "(II)I", sig := { parameters := [.int, .int], returnType := some .int }, accessFlags := 9, code := some k10c2 }
/-- java/lang/Math -/
def k10 : Class := { plain "java/lang/Math" (some 0) with
  accessFlags := 49
  interfaces := #[]
  cf := some (fileOf pool10 1 #[.nestMembers #[98]] #[{ accessFlags := 2, nameIndex := 7, descriptorIndex := 8, attributes := #[] }, { accessFlags := 9, nameIndex := 198, descriptorIndex := 335, attributes := #[] }, { accessFlags := 9, nameIndex := 201, descriptorIndex := 335, attributes := #[] }] 49 4 #[] #[{ accessFlags := 25, nameIndex := 354, descriptorIndex := 339, attributes := #[] }, { accessFlags := 25, nameIndex := 358, descriptorIndex := 339, attributes := #[] }, { accessFlags := 25, nameIndex := 361, descriptorIndex := 339, attributes := #[] }, { accessFlags := 26, nameIndex := 364, descriptorIndex := 339, attributes := #[] }, { accessFlags := 26, nameIndex := 365, descriptorIndex := 339, attributes := #[] }, { accessFlags := 26, nameIndex := 172, descriptorIndex := 173, attributes := #[] }, { accessFlags := 26, nameIndex := 176, descriptorIndex := 173, attributes := #[] }, { accessFlags := 8, nameIndex := 344, descriptorIndex := 339, attributes := #[] }, { accessFlags := 8, nameIndex := 338, descriptorIndex := 339, attributes := #[] }, { accessFlags := 4120, nameIndex := 245, descriptorIndex := 246, attributes := #[] }])
  fields := #[{ name := "E", type := .double, accessFlags := 25, slot := 0, constantValue := 0 }, { name := "PI", type := .double, accessFlags := 25, slot := 1, constantValue := 0 }, { name := "TAU", type := .double, accessFlags := 25, slot := 2, constantValue := 0 }, { name := "DEGREES_TO_RADIANS", type := .double, accessFlags := 26, slot := 3, constantValue := 0 }, { name := "RADIANS_TO_DEGREES", type := .double, accessFlags := 26, slot := 4, constantValue := 0 }, { name := "negativeZeroFloatBits", type := .long, accessFlags := 26, slot := 5, constantValue := 0 }, { name := "negativeZeroDoubleBits", type := .long, accessFlags := 26, slot := 6, constantValue := 0 }, { name := "twoToTheDoubleScaleUp", type := .double, accessFlags := 8, slot := 7, constantValue := 0 }, { name := "twoToTheDoubleScaleDown", type := .double, accessFlags := 8, slot := 8, constantValue := 0 }, { name := "$assertionsDisabled", type := .boolean, accessFlags := 4120, slot := 9, constantValue := 0 }]
  methods := #[k10m0, k10m1, k10m2]
  instanceTypes := #[]
  staticTypes := #[.double, .double, .double, .double, .double, .long, .long, .double, .double, .boolean]
  resolved := Array.replicate 460 none
  statics := none }

def pool11 : Array CpInfo := pool [(3, .class_ 4), (0, u "java/lang/String"), (1, .class_ 8), (1, u "java/lang/Object"), (0, u "<init>"), (0, u "()V"), (0, .methodref 12 13), (0, .class_ 14), (0, .nameAndType 15 16), (0, u "java/lang/StringUTF16"), (0, u "newBytesLength"), (0, u "(I)I"), (3, .integer 1073741823), (23, .fieldref 12 45), (0, .nameAndType 46 47), (0, u "$assertionsDisabled"), (0, u "Z"), (0, .methodref 12 49), (0, .nameAndType 50 51), (0, u "length"), (0, u "([B)I"), (7, .fieldref 12 60), (0, .nameAndType 61 62), (0, u "HI_BYTE_SHIFT"), (0, u "I"), (0, .fieldref 12 64), (0, .nameAndType 65 62), (0, u "LO_BYTE_SHIFT"), (5, .methodref 12 72), (0, .nameAndType 73 74), (0, u "getChar"), (0, u "([BI)C"), (21, .methodref 12 97), (0, .nameAndType 98 99), (0, u "checkBoundsBeginEnd"), (0, u "(II[B)V"), (7, .methodref 12 108), (0, .nameAndType 109 110), (0, u "newBytesFor"), (0, u "(I)[B"), (0, .methodref 12 112), (0, .nameAndType 113 114), (0, u "putChar"), (0, u "([BII)V"), (0, .methodref 12 116), (0, .nameAndType 117 118), (0, u "compress"), (0, u "([CI[BII)I"), (0, .methodref 12 120), (0, .nameAndType 121 122), (0, u "toBytes"), (0, u "([CII)[B"), (60, .methodref 184 185), (0, .class_ 186), (0, .nameAndType 187 188), (0, u "java/lang/Math"), (0, u "min"), (0, u "(II)I"), (35, .methodref 184 225), (0, .nameAndType 226 188), (0, u "max"), (0, .integer 65536), (0, .methodref 12 229), (0, .nameAndType 230 231), (0, u "indexOfChar"), (0, u "([BIII)I"), (9, .methodref 3 242), (0, .nameAndType 98 243), (0, u "(III)V"), (0, .methodref 12 245), (0, .nameAndType 246 231), (0, u "indexOfCharUnsafe"), (14, u "coderFromArrayLen"), (0, u "([BI)B"), (5, u "indexOf"), (100, .class_ 371), (1, u "java/lang/StringUTF16$LinesSpliterator"), (58, u "MAX_LENGTH"), (196, .class_ 628), (0, u "java/lang/StringUTF16$CodePointsSpliterator"), (0, .class_ 630), (0, u "java/lang/StringUTF16$CharsSpliterator")] 4

def k11m0 : Method := { name := "<init>", desc := "()V", sig := { parameters := [], returnType := none }, accessFlags := 0, code := none }
def k11c1 : Code := { maxStack := 1, maxLocals := 1, code := jdk_52_method_2_code, exceptionTable := #[], attributes := #[] }
def k11m1 : Method := { name := "newBytesFor", desc := "(I)[B", sig := { parameters := [.int], returnType := some (.array .byte) }, accessFlags := 9, code := some k11c1 }
def k11c2 : Code := { maxStack := 4, maxLocals := 1, code := jdk_52_method_3_code, exceptionTable := #[], attributes := #[] }
def k11m2 : Method := { name := "newBytesLength", desc := "(I)I", sig := { parameters := [.int], returnType := some .int }, accessFlags := 9, code := some k11c2 }
def k11c3 : Code := { maxStack := 4, maxLocals := 3, code := jdk_52_method_4_code, exceptionTable := #[], attributes := #[] }
def k11m3 : Method := { name := "putChar", desc := "([BII)V", sig := { parameters := [(.array .byte), .int, .int], returnType := none }, accessFlags := 8, code := some k11c3 }
def k11c4 : Code := { maxStack := 3, maxLocals := 2, code := jdk_52_method_5_code, exceptionTable := #[], attributes := #[] }
def k11m4 : Method := { name := "getChar", desc := "([BI)C", sig := { parameters := [(.array .byte), .int], returnType := some .char }, accessFlags := 8, code := some k11c4 }
def k11c5 : Code := { maxStack := 2, maxLocals := 1, code := jdk_52_method_6_code, exceptionTable := #[], attributes := #[] }
def k11m5 : Method := { name := "length", desc := "([B)I", sig := { parameters := [(.array .byte)], returnType := some .int }, accessFlags := 9, code := some k11c5 }
def k11c6 : Code := { maxStack := 4, maxLocals := 5, code := jdk_52_method_14_code, exceptionTable := #[], attributes := #[] }
def k11m6 : Method := { name := "toBytes", desc := "([CII)[B", sig := { parameters := [(.array .char), .int, .int], returnType := some (.array .byte) }, accessFlags := 9, code := some k11c6 }
def k11c7 : Code := { maxStack := 2, maxLocals := 2, code := jdk_52_method_15_code, exceptionTable := #[], attributes := #[] }
def k11m7 : Method := { name := "coderFromArrayLen", desc := "([BI)B", sig := { parameters := [(.array .byte), .int], returnType := some .byte }, accessFlags := 8, code := some k11c7 }
def k11c8 : Code := { maxStack := 5, maxLocals := 6, code := jdk_52_method_16_code, exceptionTable := #[], attributes := #[] }
def k11m8 : Method := { name := "compress", desc := "([CII)[B", sig := { parameters := [(.array .char), .int, .int], returnType := some (.array .byte) }, accessFlags := 9, code := some k11c8 }
def k11c9 : Code := { maxStack := 3, maxLocals := 7, code := jdk_52_method_21_code, exceptionTable := #[], attributes := #[] }
def k11m9 : Method := { name := "compress", desc := "([CI[BII)I", sig := { parameters := [(.array .char), .int, (.array .byte), .int, .int], returnType := some .int }, accessFlags := 9, code := some k11c9 }
def k11c10 : Code := { maxStack := 4, maxLocals := 4, code := jdk_52_method_40_code, exceptionTable := #[], attributes := #[] }
def k11m10 : Method := { name := "indexOf", desc := "([BIII)I", sig := { parameters := [(.array .byte), .int, .int, .int], returnType := some .int }, accessFlags := 9, code := some k11c10 }
def k11c11 : Code := { maxStack := 4, maxLocals := 4, code := jdk_52_method_47_code, exceptionTable := #[], attributes := #[] }
def k11m11 : Method := { name := "indexOfChar", desc := "([BIII)I", sig := { parameters := [(.array .byte), .int, .int, .int], returnType := some .int }, accessFlags := 10, code := some k11c11 }
def k11c12 : Code := { maxStack := 2, maxLocals := 5, code := jdk_52_method_48_code, exceptionTable := #[], attributes := #[] }
def k11m12 : Method := { name := "indexOfCharUnsafe", desc := "([BIII)I", sig := { parameters := [(.array .byte), .int, .int, .int], returnType := some .int }, accessFlags := 10, code := some k11c12 }
def k11c13 : Code := { maxStack := 3, maxLocals := 3, code := jdk_52_method_93_code, exceptionTable := #[], attributes := #[] }
def k11m13 : Method := { name := "checkBoundsBeginEnd", desc := "(II[B)V", sig := { parameters := [.int, .int, (.array .byte)], returnType := none }, accessFlags := 9, code := some k11c13 }
/-- java/lang/StringUTF16 -/
def k11 : Class := { plain "java/lang/StringUTF16" (some 0) with
  accessFlags := 48
  interfaces := #[]
  cf := some (fileOf pool11 12 #[.nestMembers #[627, 629, 369]] #[{ accessFlags := 0, nameIndex := 9, descriptorIndex := 10, attributes := #[] }, { accessFlags := 9, nameIndex := 109, descriptorIndex := 110, attributes := #[] }, { accessFlags := 9, nameIndex := 15, descriptorIndex := 16, attributes := #[] }, { accessFlags := 8, nameIndex := 113, descriptorIndex := 114, attributes := #[] }, { accessFlags := 8, nameIndex := 73, descriptorIndex := 74, attributes := #[] }, { accessFlags := 9, nameIndex := 50, descriptorIndex := 51, attributes := #[] }, { accessFlags := 9, nameIndex := 121, descriptorIndex := 122, attributes := #[] }, { accessFlags := 8, nameIndex := 261, descriptorIndex := 262, attributes := #[] }, { accessFlags := 9, nameIndex := 117, descriptorIndex := 122, attributes := #[] }, { accessFlags := 9, nameIndex := 117, descriptorIndex := 118, attributes := #[] }, { accessFlags := 9, nameIndex := 268, descriptorIndex := 231, attributes := #[] }, { accessFlags := 10, nameIndex := 230, descriptorIndex := 231, attributes := #[] }, { accessFlags := 10, nameIndex := 246, descriptorIndex := 231, attributes := #[] }, { accessFlags := 9, nameIndex := 98, descriptorIndex := 99, attributes := #[] }] 48 6 #[] #[{ accessFlags := 26, nameIndex := 61, descriptorIndex := 62, attributes := #[] }, { accessFlags := 26, nameIndex := 65, descriptorIndex := 62, attributes := #[] }, { accessFlags := 24, nameIndex := 430, descriptorIndex := 62, attributes := #[] }, { accessFlags := 4120, nameIndex := 46, descriptorIndex := 47, attributes := #[] }])
  fields := #[{ name := "HI_BYTE_SHIFT", type := .int, accessFlags := 26, slot := 0, constantValue := 0 }, { name := "LO_BYTE_SHIFT", type := .int, accessFlags := 26, slot := 1, constantValue := 0 }, { name := "MAX_LENGTH", type := .int, accessFlags := 24, slot := 2, constantValue := 0 }, { name := "$assertionsDisabled", type := .boolean, accessFlags := 4120, slot := 3, constantValue := 0 }]
  methods := #[k11m0, k11m1, k11m2, k11m3, k11m4, k11m5, k11m6, k11m7, k11m8, k11m9, k11m10, k11m11, k11m12, k11m13]
  instanceTypes := #[]
  staticTypes := #[.int, .int, .int, .boolean]
  resolved := Array.replicate 635 none
  statics := some 1 }

def pool12 : Array CpInfo := pool [(2, .class_ 4), (1, u "java/lang/Object"), (0, u "<init>"), (0, u "()V"), (17, .class_ 26), (1, u "jdk/internal/util/Preconditions"), (20, u "checkFromToIndex"), (7, .class_ 56), (0, u "jdk/internal/util/Preconditions$4"), (57, .class_ 115), (0, u "jdk/internal/util/Preconditions$1"), (7, u "SIOOBE_FORMATTER"), (0, u "Ljava/util/function/BiFunction;"), (0, .class_ 126), (0, u "jdk/internal/util/Preconditions$2"), (3, u "AIOOBE_FORMATTER"), (0, .class_ 132), (0, u "jdk/internal/util/Preconditions$3"), (3, u "IOOBE_FORMATTER"), (46, u "(IIILjava/util/function/BiFunction;)I")] 10

def k12m0 : Method := { name := "<init>", desc := "()V", sig := { parameters := [], returnType := none }, accessFlags := 1, code := none }
def k12c1 : Code := { maxStack := 4, maxLocals := 4, code := jdk_41_method_12_code, exceptionTable := #[], attributes := #[] }
def k12m1 : Method := { name := "checkFromToIndex", desc := "(IIILjava/util/function/BiFunction;)I", sig := { parameters := [.int, .int, .int, (.object "java/util/function/BiFunction")], returnType := some .int }, accessFlags := 9, code := some k12c1 }
/-- jdk/internal/util/Preconditions -/
def k12 : Class := { plain "jdk/internal/util/Preconditions" (some 0) with
  accessFlags := 33
  interfaces := #[]
  cf := some (fileOf pool12 24 #[.nestMembers #[55, 131, 125, 114]] #[{ accessFlags := 1, nameIndex := 5, descriptorIndex := 6, attributes := #[] }, { accessFlags := 9, nameIndex := 47, descriptorIndex := 183, attributes := #[] }] 33 2 #[] #[{ accessFlags := 25, nameIndex := 123, descriptorIndex := 124, attributes := #[] }, { accessFlags := 25, nameIndex := 130, descriptorIndex := 124, attributes := #[] }, { accessFlags := 25, nameIndex := 136, descriptorIndex := 124, attributes := #[] }])
  fields := #[{ name := "SIOOBE_FORMATTER", type := (.object "java/util/function/BiFunction"), accessFlags := 25, slot := 0, constantValue := 0 }, { name := "AIOOBE_FORMATTER", type := (.object "java/util/function/BiFunction"), accessFlags := 25, slot := 1, constantValue := 0 }, { name := "IOOBE_FORMATTER", type := (.object "java/util/function/BiFunction"), accessFlags := 25, slot := 2, constantValue := 0 }]
  methods := #[k12m0, k12m1]
  instanceTypes := #[]
  staticTypes := #[(.object "java/util/function/BiFunction"), (.object "java/util/function/BiFunction"), (.object "java/util/function/BiFunction")]
  resolved := Array.replicate 194 none
  statics := some 2 }

def pool13 : Array CpInfo := pool [(9, u "<init>"), (6, .class_ 18), (1, u "java/lang/Object"), (0, u "()V"), (1, .class_ 23), (1, u "jdk/internal/util/ArraysSupport"), (0, u "LOG2_ARRAY_LONG_INDEX_SCALE"), (0, u "I"), (2, u "U"), (0, u "Ljdk/internal/misc/Unsafe;"), (8, u "BIG_ENDIAN"), (0, u "Z"), (8, u "LOG2_BYTE_BIT_SIZE"), (4, u "LOG2_ARRAY_INT_INDEX_SCALE"), (54, u "JLA"), (0, u "Ljdk/internal/access/JavaLangAccess;"), (11, u "LOG2_ARRAY_BOOLEAN_INDEX_SCALE"), (9, u "LOG2_ARRAY_BYTE_INDEX_SCALE"), (5, u "LOG2_ARRAY_CHAR_INDEX_SCALE"), (5, u "LOG2_ARRAY_SHORT_INDEX_SCALE"), (18, u "LOG2_ARRAY_FLOAT_INDEX_SCALE"), (24, u "LOG2_ARRAY_DOUBLE_INDEX_SCALE"), (89, u "T_BOOLEAN"), (2, u "T_CHAR"), (1, u "T_FLOAT"), (1, u "T_DOUBLE"), (1, u "T_BYTE"), (1, u "T_SHORT"), (1, u "T_INT"), (1, u "T_LONG"), (1, u "SOFT_MAX_ARRAY_LENGTH")] 83

def k13m0 : Method := { name := "<init>", desc := "()V", sig := { parameters := [], returnType := none }, accessFlags := 2, code := none }
/-- jdk/internal/util/ArraysSupport -/
def k13 : Class := { plain "jdk/internal/util/ArraysSupport" (some 0) with
  accessFlags := 33
  interfaces := #[]
  cf := some (fileOf pool13 21 #[] #[{ accessFlags := 2, nameIndex := 9, descriptorIndex := 19, attributes := #[] }] 33 16 #[] #[{ accessFlags := 24, nameIndex := 28, descriptorIndex := 29, attributes := #[] }, { accessFlags := 26, nameIndex := 38, descriptorIndex := 39, attributes := #[] }, { accessFlags := 25, nameIndex := 121, descriptorIndex := 25, attributes := #[] }, { accessFlags := 25, nameIndex := 131, descriptorIndex := 25, attributes := #[] }, { accessFlags := 25, nameIndex := 137, descriptorIndex := 25, attributes := #[] }, { accessFlags := 25, nameIndex := 143, descriptorIndex := 25, attributes := #[] }, { accessFlags := 25, nameIndex := 53, descriptorIndex := 25, attributes := #[] }, { accessFlags := 25, nameIndex := 24, descriptorIndex := 25, attributes := #[] }, { accessFlags := 25, nameIndex := 162, descriptorIndex := 25, attributes := #[] }, { accessFlags := 25, nameIndex := 187, descriptorIndex := 25, attributes := #[] }, { accessFlags := 26, nameIndex := 48, descriptorIndex := 25, attributes := #[] }, { accessFlags := 25, nameIndex := 277, descriptorIndex := 25, attributes := #[] }, { accessFlags := 25, nameIndex := 280, descriptorIndex := 25, attributes := #[] }, { accessFlags := 25, nameIndex := 282, descriptorIndex := 25, attributes := #[] }, { accessFlags := 25, nameIndex := 284, descriptorIndex := 25, attributes := #[] }, { accessFlags := 25, nameIndex := 286, descriptorIndex := 25, attributes := #[] }, { accessFlags := 25, nameIndex := 288, descriptorIndex := 25, attributes := #[] }, { accessFlags := 25, nameIndex := 290, descriptorIndex := 25, attributes := #[] }, { accessFlags := 25, nameIndex := 292, descriptorIndex := 25, attributes := #[] }, { accessFlags := 26, nameIndex := 108, descriptorIndex := 109, attributes := #[] }, { accessFlags := 25, nameIndex := 294, descriptorIndex := 25, attributes := #[] }])
  fields := #[{ name := "U", type := (.object "jdk/internal/misc/Unsafe"), accessFlags := 24, slot := 0, constantValue := 0 }, { name := "BIG_ENDIAN", type := .boolean, accessFlags := 26, slot := 1, constantValue := 0 }, { name := "LOG2_ARRAY_BOOLEAN_INDEX_SCALE", type := .int, accessFlags := 25, slot := 2, constantValue := 0 }, { name := "LOG2_ARRAY_BYTE_INDEX_SCALE", type := .int, accessFlags := 25, slot := 3, constantValue := 0 }, { name := "LOG2_ARRAY_CHAR_INDEX_SCALE", type := .int, accessFlags := 25, slot := 4, constantValue := 0 }, { name := "LOG2_ARRAY_SHORT_INDEX_SCALE", type := .int, accessFlags := 25, slot := 5, constantValue := 0 }, { name := "LOG2_ARRAY_INT_INDEX_SCALE", type := .int, accessFlags := 25, slot := 6, constantValue := 0 }, { name := "LOG2_ARRAY_LONG_INDEX_SCALE", type := .int, accessFlags := 25, slot := 7, constantValue := 0 }, { name := "LOG2_ARRAY_FLOAT_INDEX_SCALE", type := .int, accessFlags := 25, slot := 8, constantValue := 0 }, { name := "LOG2_ARRAY_DOUBLE_INDEX_SCALE", type := .int, accessFlags := 25, slot := 9, constantValue := 0 }, { name := "LOG2_BYTE_BIT_SIZE", type := .int, accessFlags := 26, slot := 10, constantValue := 0 }, { name := "T_BOOLEAN", type := .int, accessFlags := 25, slot := 11, constantValue := 0 }, { name := "T_CHAR", type := .int, accessFlags := 25, slot := 12, constantValue := 0 }, { name := "T_FLOAT", type := .int, accessFlags := 25, slot := 13, constantValue := 0 }, { name := "T_DOUBLE", type := .int, accessFlags := 25, slot := 14, constantValue := 0 }, { name := "T_BYTE", type := .int, accessFlags := 25, slot := 15, constantValue := 0 }, { name := "T_SHORT", type := .int, accessFlags := 25, slot := 16, constantValue := 0 }, { name := "T_INT", type := .int, accessFlags := 25, slot := 17, constantValue := 0 }, { name := "T_LONG", type := .int, accessFlags := 25, slot := 18, constantValue := 0 }, { name := "JLA", type := (.object "jdk/internal/access/JavaLangAccess"), accessFlags := 26, slot := 19, constantValue := 0 }, { name := "SOFT_MAX_ARRAY_LENGTH", type := .int, accessFlags := 25, slot := 20, constantValue := 0 }]
  methods := #[k13m0]
  instanceTypes := #[]
  staticTypes := #[(.object "jdk/internal/misc/Unsafe"), .boolean, .int, .int, .int, .int, .int, .int, .int, .int, .int, .int, .int, .int, .int, .int, .int, .int, .int, (.object "jdk/internal/access/JavaLangAccess"), .int]
  resolved := Array.replicate 378 none
  statics := none }

def pool14 : Array CpInfo := pool [(1, u "java/lang/Cloneable"), (0, .class_ 1), (0, u "java/lang/Object"), (0, .class_ 3)] 3

/-- java/lang/Cloneable -/
def k14 : Class := { plain "java/lang/Cloneable" (some 0) with
  accessFlags := 1537
  interfaces := #[]
  cf := some (fileOf pool14 2 #[] #[] 1537 4 #[] #[])
  fields := #[]
  methods := #[]
  instanceTypes := #[]
  staticTypes := #[]
  resolved := Array.replicate 8 none
  statics := none }

/-- the primitive byte -/
def k15 : Class := { plain "byte" none with kind := .primitive 'B', accessFlags := 0x411 }
/-- [B -/
def k16 : Class := { plain "[B" (some 0) with kind := .array 15 .byte, interfaces := #[14, 2], accessFlags := 1041 }

/-- the primitive char -/
def k17 : Class := { plain "char" none with kind := .primitive 'C', accessFlags := 0x411 }
/-- [C -/
def k18 : Class := { plain "[C" (some 0) with kind := .array 17 .char, interfaces := #[14, 2], accessFlags := 1041 }

/-- the primitive int -/
def k19 : Class := { plain "int" none with kind := .primitive 'I', accessFlags := 0x411 }
/-- [I -/
def k20 : Class := { plain "[I" (some 0) with kind := .array 19 .int, interfaces := #[14, 2], accessFlags := 1041 }

def heap : Heap := #[{ cls := 7, slots := #[.long 0, .int 1, .null, .int 0, .null, .int 0, .int 0], vm := .statics 7 },
  { cls := 11, slots := #[.int 0, .int 8, .int 0, .int 1], vm := .statics 11 },
  { cls := 12, slots := #[.null, .null, .null], vm := .statics 12 }]
def classes : Array Class := #[k0, k1, k2, k3, k4, k5, k6, k7, k8, k9, k10, k11, k12, k13, k14, k15, k16, k17, k18, k19, k20]
def interned : List (Array UInt16 × Addr) := []
def slotsUsed : Nat := 14
def theMethod : MethodId := ⟨1, 4⟩
def args0 : Array Value := #[.int 5, .int 5, .int 5, .int 5]
def aboutOver (below : List Frame) : State where
  vm := { classes := classes, interned := interned.toArray }
  heap := heap
  slotsUsed := slotsUsed
  threads := #[{ frames := .invoking theMethod args0 :: below }]
def below0 : List Frame := [.native { method := ⟨0, 0⟩, args := #[] }]
def about1 : State := aboutOver below0
def p0 : Program := .bare "" "" ""
def e0 : Env := launch0.env 0 0 0
theorem w_frames : about1.frames = Frame.invoking theMethod args0 :: below0 := rfl
set_option maxRecDepth 65536 in
theorem w_args : argsFit about1.vm theMethod args0 = true := by decide +kernel
set_option maxRecDepth 65536 in
theorem w_heap : heapFits about1 = true := by decide +kernel
set_option maxRecDepth 65536 in
theorem w_runnable : about1.curStatus? = some .runnable := by decide +kernel
set_option maxRecDepth 65536 in
theorem w_alone : about1.alone = true := by decide +kernel
set_option maxRecDepth 65536 in
theorem w_named : about1.methodNamed? x = some theMethod := by decide +kernel
set_option maxRecDepth 65536 in
theorem w_hears : about1.hears theMethod below0 = true := by decide +kernel
set_option maxRecDepth 65536 in
theorem w_ripe : about1.ripe theMethod args0 below0 = true := by decide +kernel
theorem w_running : about1.status = .running := rfl
set_option maxRecDepth 65536 in
theorem w_room : about1.hasRoom e0.platform room_1 = true :=
  launch0.hasRoom_least _ room_1 (by decide +kernel) (by decide +kernel) (by decide +kernel) (by decide +kernel) (by decide +kernel) (by decide +kernel)
theorem allAtoms_all (ts : List Jvm.Cond) (a : Array Jvm.Value) (st : Jvm.State) : (allAtoms ts).before a st = ts.all (fun c => c.before a st) := by
  induction ts with
  | nil => rfl
  | cons c t ih =>
    show (Jvm.Cond.and c (allAtoms t)).before a st = _
    rw [Jvm.Cond.before_and, ih, List.all_cons]
def words1 : List Jvm.Cond := Jvm.Cond.code x code maxLocals ret :: tables_1
/-- a 'code' word, met by the world's own term for the bytes: nothing is compared byte by byte -/
theorem code_word {y : MethodName} {bytes : ByteArray} {mx : Nat} {rt : Option FieldType} {a : Array Value} {s : State} {m : MethodId} {meth : Method} {c : Code} (h1 : s.methodNamed? y = some m) (h2 : s.vm.method? m = some meth) (h3 : meth.code = some c) (h4 : c.code = bytes)
    (h5 : (c.maxLocals == mx && c.exceptionTable.isEmpty && decide (c.maxStack ≤ mostOperands) && decide (meth.sig.returnType = rt) && !meth.locks && decide (parseMethodDescriptor y.desc = some meth.sig)) = true) : (Jvm.Cond.code y bytes mx rt).before a s = true := by
  simp only [Bool.and_eq_true, beq_iff_eq, Bool.not_eq_true', decide_eq_true_eq] at h5
  obtain ⟨⟨⟨⟨⟨g1, g2⟩, g3⟩, g4⟩, g5⟩, g6⟩ := h5
  simp [Cond.before, Cond.holds, Cond.value, h1, h2, h3, h4, g1, g2, g3, g4, g5, g6]
def isCode : Jvm.Cond → Bool
  | .code _ _ _ _ => true
  | _ => false
theorem all_split {L : List Jvm.Cond} {P : Jvm.Cond → Bool} (h1 : L.all (fun c => isCode c || P c) = true) (h2 : ∀ c ∈ L.filter isCode, P c = true) : L.all P = true := by
  refine List.all_eq_true.mpr fun c hc => ?_
  have h := List.all_eq_true.mp h1 c hc
  rcases Bool.eq_false_or_eq_true (isCode c) with hi | hi
  · exact h2 c (List.mem_filter.mpr ⟨hc, hi⟩)
  · simpa [hi] using h
set_option maxRecDepth 65536 in
theorem w_c0 : (Jvm.Cond.code x code maxLocals ret).before args0 about1 = true := code_word (m := ⟨1, 4⟩) (meth := k1m4) (c := k1c4) (by decide +kernel) rfl rfl rfl (by decide +kernel)
set_option maxRecDepth 65536 in
theorem w_c1 : (Jvm.Cond.code ({ cls := "com/example/treegraft/treegraft/files/TextFilesIsFieldPinLaw", name := "draw", desc := "(I)C" } : Jvm.MethodName) method_2_code (1 : Nat) (Option.some Jvm.ClassFile.FieldType.char)).before args0 about1 = true := code_word (m := ⟨1, 1⟩) (meth := k1m1) (c := k1c1) (by decide +kernel) rfl rfl rfl (by decide +kernel)
set_option maxRecDepth 65536 in
theorem w_c2 : (Jvm.Cond.code ({ cls := "com/example/treegraft/treegraft/files/TextFilesIsFieldPinLaw", name := "make", desc := "(ICCC)Ljava/lang/String;" } : Jvm.MethodName) method_4_code (4 : Nat) (Option.some (Jvm.ClassFile.FieldType.object "java/lang/String"))).before args0 about1 = true := code_word (m := ⟨1, 3⟩) (meth := k1m3) (c := k1c3) (by decide +kernel) rfl rfl rfl (by decide +kernel)
set_option maxRecDepth 65536 in
theorem w_c3 : (Jvm.Cond.code ({ cls := "java/lang/String", name := "<init>", desc := "([C)V" } : Jvm.MethodName) jdk_42_method_3_code (2 : Nat) (Option.none : Option Jvm.ClassFile.FieldType)).before args0 about1 = true := code_word (m := ⟨7, 1⟩) (meth := k7m1) (c := k7c1) (by decide +kernel) rfl rfl rfl (by decide +kernel)
set_option maxRecDepth 65536 in
theorem w_c4 : (Jvm.Cond.code ({ cls := "java/lang/String", name := "<init>", desc := "([CIILjava/lang/Void;)V" } : Jvm.MethodName) jdk_42_method_149_code (6 : Nat) (Option.none : Option Jvm.ClassFile.FieldType)).before args0 about1 = true := code_word (m := ⟨7, 5⟩) (meth := k7m5) (c := k7c5) (by decide +kernel) rfl rfl rfl (by decide +kernel)
set_option maxRecDepth 65536 in
theorem w_c5 : (Jvm.Cond.code ({ cls := "java/lang/Object", name := "<init>", desc := "()V" } : Jvm.MethodName) object_method_1_code (1 : Nat) (Option.none : Option Jvm.ClassFile.FieldType)).before args0 about1 = true := code_word (m := ⟨0, 0⟩) (meth := k0m0) (c := k0c0) (by decide +kernel) rfl rfl rfl (by decide +kernel)
set_option maxRecDepth 65536 in
theorem w_c6 : (Jvm.Cond.code ({ cls := "com/example/treegraft/treegraft/files/TextFiles", name := "isField", desc := "(Ljava/lang/String;)Z" } : Jvm.MethodName) prog_47_method_4_code (1 : Nat) (Option.some Jvm.ClassFile.FieldType.boolean)).before args0 about1 = true := code_word (m := ⟨8, 1⟩) (meth := k8m1) (c := k8c1) (by decide +kernel) rfl rfl rfl (by decide +kernel)
set_option maxRecDepth 65536 in
theorem w_c7 : (Jvm.Cond.code ({ cls := "java/lang/String", name := "indexOf", desc := "(I)I" } : Jvm.MethodName) jdk_42_method_79_code (2 : Nat) (Option.some Jvm.ClassFile.FieldType.int)).before args0 about1 = true := code_word (m := ⟨7, 3⟩) (meth := k7m3) (c := k7c3) (by decide +kernel) rfl rfl rfl (by decide +kernel)
set_option maxRecDepth 65536 in
theorem w_c8 : (Jvm.Cond.code ({ cls := "java/lang/String", name := "indexOf", desc := "(II)I" } : Jvm.MethodName) jdk_42_method_80_code (3 : Nat) (Option.some Jvm.ClassFile.FieldType.int)).before args0 about1 = true := code_word (m := ⟨7, 4⟩) (meth := k7m4) (c := k7c4) (by decide +kernel) rfl rfl rfl (by decide +kernel)
set_option maxRecDepth 65536 in
theorem w_c9 : (Jvm.Cond.code ({ cls := "java/lang/String", name := "isLatin1", desc := "()Z" } : Jvm.MethodName) jdk_42_method_154_code (1 : Nat) (Option.some Jvm.ClassFile.FieldType.boolean)).before args0 about1 = true := code_word (m := ⟨7, 7⟩) (meth := k7m7) (c := k7c7) (by decide +kernel) rfl rfl rfl (by decide +kernel)
set_option maxRecDepth 65536 in
theorem w_c10 : (Jvm.Cond.code ({ cls := "java/lang/String", name := "length", desc := "()I" } : Jvm.MethodName) jdk_42_method_54_code (1 : Nat) (Option.some Jvm.ClassFile.FieldType.int)).before args0 about1 = true := code_word (m := ⟨7, 2⟩) (meth := k7m2) (c := k7c2) (by decide +kernel) rfl rfl rfl (by decide +kernel)
set_option maxRecDepth 65536 in
theorem w_c11 : (Jvm.Cond.code ({ cls := "java/lang/String", name := "coder", desc := "()B" } : Jvm.MethodName) jdk_42_method_152_code (1 : Nat) (Option.some Jvm.ClassFile.FieldType.byte)).before args0 about1 = true := code_word (m := ⟨7, 6⟩) (meth := k7m6) (c := k7c6) (by decide +kernel) rfl rfl rfl (by decide +kernel)
set_option maxRecDepth 65536 in
theorem w_c12 : (Jvm.Cond.code ({ cls := "java/lang/StringLatin1", name := "indexOf", desc := "([BIII)I" } : Jvm.MethodName) jdk_43_method_22_code (4 : Nat) (Option.some Jvm.ClassFile.FieldType.int)).before args0 about1 = true := code_word (m := ⟨9, 2⟩) (meth := k9m2) (c := k9c2) (by decide +kernel) rfl rfl rfl (by decide +kernel)
set_option maxRecDepth 65536 in
theorem w_c13 : (Jvm.Cond.code ({ cls := "java/lang/StringLatin1", name := "canEncode", desc := "(I)Z" } : Jvm.MethodName) jdk_43_method_4_code (1 : Nat) (Option.some Jvm.ClassFile.FieldType.boolean)).before args0 about1 = true := code_word (m := ⟨9, 1⟩) (meth := k9m1) (c := k9c1) (by decide +kernel) rfl rfl rfl (by decide +kernel)
set_option maxRecDepth 65536 in
theorem w_c14 : (Jvm.Cond.code ({ cls := "java/lang/Math", name := "max", desc := "(II)I" } : Jvm.MethodName) jdk_29_method_65_code (2 : Nat) (Option.some Jvm.ClassFile.FieldType.int)).before args0 about1 = true := code_word (m := ⟨10, 1⟩) (meth := k10m1) (c := k10c1) (by decide +kernel) rfl rfl rfl (by decide +kernel)
set_option maxRecDepth 65536 in
theorem w_c15 : (Jvm.Cond.code ({ cls := "java/lang/Math", name := "min", desc := "(II)I" } : Jvm.MethodName) jdk_29_method_69_code (2 : Nat) (Option.some Jvm.ClassFile.FieldType.int)).before args0 about1 = true := code_word (m := ⟨10, 2⟩) (meth := k10m2) (c := k10c2) (by decide +kernel) rfl rfl rfl (by decide +kernel)
set_option maxRecDepth 65536 in
theorem w_c16 : (Jvm.Cond.code ({ cls := "java/lang/StringUTF16", name := "compress", desc := "([CII)[B" } : Jvm.MethodName) jdk_52_method_16_code (6 : Nat) (Option.some (Jvm.ClassFile.FieldType.array Jvm.ClassFile.FieldType.byte))).before args0 about1 = true := code_word (m := ⟨11, 8⟩) (meth := k11m8) (c := k11c8) (by decide +kernel) rfl rfl rfl (by decide +kernel)
set_option maxRecDepth 65536 in
theorem w_c17 : (Jvm.Cond.code ({ cls := "java/lang/StringUTF16", name := "compress", desc := "([CI[BII)I" } : Jvm.MethodName) jdk_52_method_21_code (7 : Nat) (Option.some Jvm.ClassFile.FieldType.int)).before args0 about1 = true := code_word (m := ⟨11, 9⟩) (meth := k11m9) (c := k11c9) (by decide +kernel) rfl rfl rfl (by decide +kernel)
set_option maxRecDepth 65536 in
theorem w_c18 : (Jvm.Cond.code ({ cls := "java/lang/StringUTF16", name := "coderFromArrayLen", desc := "([BI)B" } : Jvm.MethodName) jdk_52_method_15_code (2 : Nat) (Option.some Jvm.ClassFile.FieldType.byte)).before args0 about1 = true := code_word (m := ⟨11, 7⟩) (meth := k11m7) (c := k11c7) (by decide +kernel) rfl rfl rfl (by decide +kernel)
set_option maxRecDepth 65536 in
theorem w_c19 : (Jvm.Cond.code ({ cls := "com/example/treegraft/treegraft/files/TextFilesIsFieldPinLaw", name := "bad", desc := "(C)Z" } : Jvm.MethodName) method_3_code (1 : Nat) (Option.some Jvm.ClassFile.FieldType.boolean)).before args0 about1 = true := code_word (m := ⟨1, 2⟩) (meth := k1m2) (c := k1c2) (by decide +kernel) rfl rfl rfl (by decide +kernel)
set_option maxRecDepth 65536 in
theorem w_c20 : (Jvm.Cond.code ({ cls := "java/lang/StringLatin1", name := "indexOfChar", desc := "([BIII)I" } : Jvm.MethodName) jdk_43_method_23_code (6 : Nat) (Option.some Jvm.ClassFile.FieldType.int)).before args0 about1 = true := code_word (m := ⟨9, 3⟩) (meth := k9m3) (c := k9c3) (by decide +kernel) rfl rfl rfl (by decide +kernel)
set_option maxRecDepth 65536 in
theorem w_c21 : (Jvm.Cond.code ({ cls := "java/lang/StringUTF16", name := "toBytes", desc := "([CII)[B" } : Jvm.MethodName) jdk_52_method_14_code (5 : Nat) (Option.some (Jvm.ClassFile.FieldType.array Jvm.ClassFile.FieldType.byte))).before args0 about1 = true := code_word (m := ⟨11, 6⟩) (meth := k11m6) (c := k11c6) (by decide +kernel) rfl rfl rfl (by decide +kernel)
set_option maxRecDepth 65536 in
theorem w_c22 : (Jvm.Cond.code ({ cls := "java/lang/StringUTF16", name := "newBytesFor", desc := "(I)[B" } : Jvm.MethodName) jdk_52_method_2_code (1 : Nat) (Option.some (Jvm.ClassFile.FieldType.array Jvm.ClassFile.FieldType.byte))).before args0 about1 = true := code_word (m := ⟨11, 1⟩) (meth := k11m1) (c := k11c1) (by decide +kernel) rfl rfl rfl (by decide +kernel)
set_option maxRecDepth 65536 in
theorem w_c23 : (Jvm.Cond.code ({ cls := "java/lang/StringUTF16", name := "newBytesLength", desc := "(I)I" } : Jvm.MethodName) jdk_52_method_3_code (1 : Nat) (Option.some Jvm.ClassFile.FieldType.int)).before args0 about1 = true := code_word (m := ⟨11, 2⟩) (meth := k11m2) (c := k11c2) (by decide +kernel) rfl rfl rfl (by decide +kernel)
set_option maxRecDepth 65536 in
theorem w_c24 : (Jvm.Cond.code ({ cls := "java/lang/StringUTF16", name := "putChar", desc := "([BII)V" } : Jvm.MethodName) jdk_52_method_4_code (3 : Nat) (Option.none : Option Jvm.ClassFile.FieldType)).before args0 about1 = true := code_word (m := ⟨11, 3⟩) (meth := k11m3) (c := k11c3) (by decide +kernel) rfl rfl rfl (by decide +kernel)
set_option maxRecDepth 65536 in
theorem w_c25 : (Jvm.Cond.code ({ cls := "java/lang/StringUTF16", name := "getChar", desc := "([BI)C" } : Jvm.MethodName) jdk_52_method_5_code (2 : Nat) (Option.some Jvm.ClassFile.FieldType.char)).before args0 about1 = true := code_word (m := ⟨11, 4⟩) (meth := k11m4) (c := k11c4) (by decide +kernel) rfl rfl rfl (by decide +kernel)
set_option maxRecDepth 65536 in
theorem w_c26 : (Jvm.Cond.code ({ cls := "java/lang/StringUTF16", name := "indexOf", desc := "([BIII)I" } : Jvm.MethodName) jdk_52_method_40_code (4 : Nat) (Option.some Jvm.ClassFile.FieldType.int)).before args0 about1 = true := code_word (m := ⟨11, 10⟩) (meth := k11m10) (c := k11c10) (by decide +kernel) rfl rfl rfl (by decide +kernel)
set_option maxRecDepth 65536 in
theorem w_c27 : (Jvm.Cond.code ({ cls := "java/lang/StringUTF16", name := "indexOfChar", desc := "([BIII)I" } : Jvm.MethodName) jdk_52_method_47_code (4 : Nat) (Option.some Jvm.ClassFile.FieldType.int)).before args0 about1 = true := code_word (m := ⟨11, 11⟩) (meth := k11m11) (c := k11c11) (by decide +kernel) rfl rfl rfl (by decide +kernel)
set_option maxRecDepth 65536 in
theorem w_c28 : (Jvm.Cond.code ({ cls := "java/lang/StringUTF16", name := "checkBoundsBeginEnd", desc := "(II[B)V" } : Jvm.MethodName) jdk_52_method_93_code (3 : Nat) (Option.none : Option Jvm.ClassFile.FieldType)).before args0 about1 = true := code_word (m := ⟨11, 13⟩) (meth := k11m13) (c := k11c13) (by decide +kernel) rfl rfl rfl (by decide +kernel)
set_option maxRecDepth 65536 in
theorem w_c29 : (Jvm.Cond.code ({ cls := "java/lang/StringUTF16", name := "length", desc := "([B)I" } : Jvm.MethodName) jdk_52_method_6_code (1 : Nat) (Option.some Jvm.ClassFile.FieldType.int)).before args0 about1 = true := code_word (m := ⟨11, 5⟩) (meth := k11m5) (c := k11c5) (by decide +kernel) rfl rfl rfl (by decide +kernel)
set_option maxRecDepth 65536 in
theorem w_c30 : (Jvm.Cond.code ({ cls := "java/lang/String", name := "checkBoundsBeginEnd", desc := "(III)V" } : Jvm.MethodName) jdk_42_method_158_code (3 : Nat) (Option.none : Option Jvm.ClassFile.FieldType)).before args0 about1 = true := code_word (m := ⟨7, 8⟩) (meth := k7m8) (c := k7c8) (by decide +kernel) rfl rfl rfl (by decide +kernel)
set_option maxRecDepth 65536 in
theorem w_c31 : (Jvm.Cond.code ({ cls := "jdk/internal/util/Preconditions", name := "checkFromToIndex", desc := "(IIILjava/util/function/BiFunction;)I" } : Jvm.MethodName) jdk_41_method_12_code (4 : Nat) (Option.some Jvm.ClassFile.FieldType.int)).before args0 about1 = true := code_word (m := ⟨12, 1⟩) (meth := k12m1) (c := k12c1) (by decide +kernel) rfl rfl rfl (by decide +kernel)
set_option maxRecDepth 65536 in
theorem w_c32 : (Jvm.Cond.code ({ cls := "java/lang/StringUTF16", name := "indexOfCharUnsafe", desc := "([BIII)I" } : Jvm.MethodName) jdk_52_method_48_code (5 : Nat) (Option.some Jvm.ClassFile.FieldType.int)).before args0 about1 = true := code_word (m := ⟨11, 12⟩) (meth := k11m12) (c := k11c12) (by decide +kernel) rfl rfl rfl (by decide +kernel)
def codes1 : List Jvm.Cond := [Jvm.Cond.code x code maxLocals ret, Jvm.Cond.code ({ cls := "com/example/treegraft/treegraft/files/TextFilesIsFieldPinLaw", name := "draw", desc := "(I)C" } : Jvm.MethodName) method_2_code (1 : Nat) (Option.some Jvm.ClassFile.FieldType.char), Jvm.Cond.code ({ cls := "com/example/treegraft/treegraft/files/TextFilesIsFieldPinLaw", name := "make", desc := "(ICCC)Ljava/lang/String;" } : Jvm.MethodName) method_4_code (4 : Nat) (Option.some (Jvm.ClassFile.FieldType.object "java/lang/String")), Jvm.Cond.code ({ cls := "java/lang/String", name := "<init>", desc := "([C)V" } : Jvm.MethodName) jdk_42_method_3_code (2 : Nat) (Option.none : Option Jvm.ClassFile.FieldType), Jvm.Cond.code ({ cls := "java/lang/String", name := "<init>", desc := "([CIILjava/lang/Void;)V" } : Jvm.MethodName) jdk_42_method_149_code (6 : Nat) (Option.none : Option Jvm.ClassFile.FieldType), Jvm.Cond.code ({ cls := "java/lang/Object", name := "<init>", desc := "()V" } : Jvm.MethodName) object_method_1_code (1 : Nat) (Option.none : Option Jvm.ClassFile.FieldType), Jvm.Cond.code ({ cls := "com/example/treegraft/treegraft/files/TextFiles", name := "isField", desc := "(Ljava/lang/String;)Z" } : Jvm.MethodName) prog_47_method_4_code (1 : Nat) (Option.some Jvm.ClassFile.FieldType.boolean), Jvm.Cond.code ({ cls := "java/lang/String", name := "indexOf", desc := "(I)I" } : Jvm.MethodName) jdk_42_method_79_code (2 : Nat) (Option.some Jvm.ClassFile.FieldType.int), Jvm.Cond.code ({ cls := "java/lang/String", name := "indexOf", desc := "(II)I" } : Jvm.MethodName) jdk_42_method_80_code (3 : Nat) (Option.some Jvm.ClassFile.FieldType.int), Jvm.Cond.code ({ cls := "java/lang/String", name := "isLatin1", desc := "()Z" } : Jvm.MethodName) jdk_42_method_154_code (1 : Nat) (Option.some Jvm.ClassFile.FieldType.boolean), Jvm.Cond.code ({ cls := "java/lang/String", name := "length", desc := "()I" } : Jvm.MethodName) jdk_42_method_54_code (1 : Nat) (Option.some Jvm.ClassFile.FieldType.int), Jvm.Cond.code ({ cls := "java/lang/String", name := "coder", desc := "()B" } : Jvm.MethodName) jdk_42_method_152_code (1 : Nat) (Option.some Jvm.ClassFile.FieldType.byte), Jvm.Cond.code ({ cls := "java/lang/StringLatin1", name := "indexOf", desc := "([BIII)I" } : Jvm.MethodName) jdk_43_method_22_code (4 : Nat) (Option.some Jvm.ClassFile.FieldType.int), Jvm.Cond.code ({ cls := "java/lang/StringLatin1", name := "canEncode", desc := "(I)Z" } : Jvm.MethodName) jdk_43_method_4_code (1 : Nat) (Option.some Jvm.ClassFile.FieldType.boolean), Jvm.Cond.code ({ cls := "java/lang/Math", name := "max", desc := "(II)I" } : Jvm.MethodName) jdk_29_method_65_code (2 : Nat) (Option.some Jvm.ClassFile.FieldType.int), Jvm.Cond.code ({ cls := "java/lang/Math", name := "min", desc := "(II)I" } : Jvm.MethodName) jdk_29_method_69_code (2 : Nat) (Option.some Jvm.ClassFile.FieldType.int), Jvm.Cond.code ({ cls := "java/lang/StringUTF16", name := "compress", desc := "([CII)[B" } : Jvm.MethodName) jdk_52_method_16_code (6 : Nat) (Option.some (Jvm.ClassFile.FieldType.array Jvm.ClassFile.FieldType.byte)), Jvm.Cond.code ({ cls := "java/lang/StringUTF16", name := "compress", desc := "([CI[BII)I" } : Jvm.MethodName) jdk_52_method_21_code (7 : Nat) (Option.some Jvm.ClassFile.FieldType.int), Jvm.Cond.code ({ cls := "java/lang/StringUTF16", name := "coderFromArrayLen", desc := "([BI)B" } : Jvm.MethodName) jdk_52_method_15_code (2 : Nat) (Option.some Jvm.ClassFile.FieldType.byte), Jvm.Cond.code ({ cls := "com/example/treegraft/treegraft/files/TextFilesIsFieldPinLaw", name := "bad", desc := "(C)Z" } : Jvm.MethodName) method_3_code (1 : Nat) (Option.some Jvm.ClassFile.FieldType.boolean), Jvm.Cond.code ({ cls := "java/lang/StringLatin1", name := "indexOfChar", desc := "([BIII)I" } : Jvm.MethodName) jdk_43_method_23_code (6 : Nat) (Option.some Jvm.ClassFile.FieldType.int), Jvm.Cond.code ({ cls := "java/lang/StringUTF16", name := "toBytes", desc := "([CII)[B" } : Jvm.MethodName) jdk_52_method_14_code (5 : Nat) (Option.some (Jvm.ClassFile.FieldType.array Jvm.ClassFile.FieldType.byte)), Jvm.Cond.code ({ cls := "java/lang/StringUTF16", name := "newBytesFor", desc := "(I)[B" } : Jvm.MethodName) jdk_52_method_2_code (1 : Nat) (Option.some (Jvm.ClassFile.FieldType.array Jvm.ClassFile.FieldType.byte)), Jvm.Cond.code ({ cls := "java/lang/StringUTF16", name := "newBytesLength", desc := "(I)I" } : Jvm.MethodName) jdk_52_method_3_code (1 : Nat) (Option.some Jvm.ClassFile.FieldType.int), Jvm.Cond.code ({ cls := "java/lang/StringUTF16", name := "putChar", desc := "([BII)V" } : Jvm.MethodName) jdk_52_method_4_code (3 : Nat) (Option.none : Option Jvm.ClassFile.FieldType), Jvm.Cond.code ({ cls := "java/lang/StringUTF16", name := "getChar", desc := "([BI)C" } : Jvm.MethodName) jdk_52_method_5_code (2 : Nat) (Option.some Jvm.ClassFile.FieldType.char), Jvm.Cond.code ({ cls := "java/lang/StringUTF16", name := "indexOf", desc := "([BIII)I" } : Jvm.MethodName) jdk_52_method_40_code (4 : Nat) (Option.some Jvm.ClassFile.FieldType.int), Jvm.Cond.code ({ cls := "java/lang/StringUTF16", name := "indexOfChar", desc := "([BIII)I" } : Jvm.MethodName) jdk_52_method_47_code (4 : Nat) (Option.some Jvm.ClassFile.FieldType.int), Jvm.Cond.code ({ cls := "java/lang/StringUTF16", name := "checkBoundsBeginEnd", desc := "(II[B)V" } : Jvm.MethodName) jdk_52_method_93_code (3 : Nat) (Option.none : Option Jvm.ClassFile.FieldType), Jvm.Cond.code ({ cls := "java/lang/StringUTF16", name := "length", desc := "([B)I" } : Jvm.MethodName) jdk_52_method_6_code (1 : Nat) (Option.some Jvm.ClassFile.FieldType.int), Jvm.Cond.code ({ cls := "java/lang/String", name := "checkBoundsBeginEnd", desc := "(III)V" } : Jvm.MethodName) jdk_42_method_158_code (3 : Nat) (Option.none : Option Jvm.ClassFile.FieldType), Jvm.Cond.code ({ cls := "jdk/internal/util/Preconditions", name := "checkFromToIndex", desc := "(IIILjava/util/function/BiFunction;)I" } : Jvm.MethodName) jdk_41_method_12_code (4 : Nat) (Option.some Jvm.ClassFile.FieldType.int), Jvm.Cond.code ({ cls := "java/lang/StringUTF16", name := "indexOfCharUnsafe", desc := "([BIII)I" } : Jvm.MethodName) jdk_52_method_48_code (5 : Nat) (Option.some Jvm.ClassFile.FieldType.int)]
set_option maxRecDepth 65536 in
theorem codes_eq : words1.filter isCode = codes1 := rfl
theorem w_codes : ∀ c ∈ words1.filter isCode, c.before args0 about1 = true := by
  rw [codes_eq]
  intro c hc
  simp only [codes1, List.mem_cons, List.not_mem_nil, or_false] at hc
  rcases hc with rfl | rfl | rfl | rfl | rfl | rfl | rfl | rfl | rfl | rfl | rfl | rfl | rfl | rfl | rfl | rfl | rfl | rfl | rfl | rfl | rfl | rfl | rfl | rfl | rfl | rfl | rfl | rfl | rfl | rfl | rfl | rfl | rfl
  · exact w_c0
  · exact w_c1
  · exact w_c2
  · exact w_c3
  · exact w_c4
  · exact w_c5
  · exact w_c6
  · exact w_c7
  · exact w_c8
  · exact w_c9
  · exact w_c10
  · exact w_c11
  · exact w_c12
  · exact w_c13
  · exact w_c14
  · exact w_c15
  · exact w_c16
  · exact w_c17
  · exact w_c18
  · exact w_c19
  · exact w_c20
  · exact w_c21
  · exact w_c22
  · exact w_c23
  · exact w_c24
  · exact w_c25
  · exact w_c26
  · exact w_c27
  · exact w_c28
  · exact w_c29
  · exact w_c30
  · exact w_c31
  · exact w_c32
set_option maxRecDepth 65536 in
theorem w_t1 : (words1.take 24).all (fun c => isCode c || c.before args0 about1) = true := by decide +kernel
set_option maxRecDepth 65536 in
theorem w_t2 : ((words1.drop 24).take 24).all (fun c => isCode c || c.before args0 about1) = true := by decide +kernel
set_option maxRecDepth 65536 in
theorem w_t3 : (((words1.drop 24).drop 24).take 24).all (fun c => isCode c || c.before args0 about1) = true := by decide +kernel
set_option maxRecDepth 65536 in
theorem w_t4 : ((((words1.drop 24).drop 24).drop 24).take 24).all (fun c => isCode c || c.before args0 about1) = true := by decide +kernel
set_option maxRecDepth 65536 in
theorem w_t5 : (((((words1.drop 24).drop 24).drop 24).drop 24).take 24).all (fun c => isCode c || c.before args0 about1) = true := by decide +kernel
set_option maxRecDepth 65536 in
theorem w_t6 : (((((words1.drop 24).drop 24).drop 24).drop 24).drop 24).all (fun c => isCode c || c.before args0 about1) = true := by decide +kernel
theorem w_tables : (allAtoms (Jvm.Cond.code x code maxLocals ret :: tables_1)).before args0 about1 = true := by
  rw [allAtoms_all]
  show words1.all (fun c => c.before args0 about1) = true
  refine all_split ?_ w_codes
  rw [← List.take_append_drop 24 words1, List.all_append, w_t1, ← List.take_append_drop 24 (words1.drop 24), List.all_append, w_t2, ← List.take_append_drop 24 ((words1.drop 24).drop 24), List.all_append, w_t3, ← List.take_append_drop 24 (((words1.drop 24).drop 24).drop 24), List.all_append, w_t4, ← List.take_append_drop 24 ((((words1.drop 24).drop 24).drop 24).drop 24), List.all_append, w_t5, w_t6]
  rfl
set_option maxRecDepth 65536 in
theorem w_rest : rest_1_c.before args0 about1 = true := by decide +kernel
set_option maxRecDepth 65536 in
theorem w_case : (Jvm.Cond.and given_1 narrow_1).before args0 about1 = true := by decide +kernel
set_option maxRecDepth 65536 in
theorem w_consts : constsHeld consts_1 about1 := Jvm.Lit.constsHeldB_iff.mp (by decide +kernel)
theorem w_applies : (headSpec (Jvm.Cond.code x code maxLocals ret :: tables_1) room_1).applies x e0.platform about1 = true :=
  (Spec.applies_iff w_frames).mpr ⟨w_running, w_runnable, w_alone, w_named, w_hears, w_ripe, w_room, w_tables⟩
theorem atStart : AtStart classFile x code maxLocals ret World_1 tables_1 room_1 Calls_1 rest_1 Pre_1 launch0 p0 e0 about1 theMethod args0 below0 :=
  ⟨lists_1, trivial, launch0.admits_env _ _ _, launch0.least_env, fairChoices_fair.cas, fairChoices_fair.clock, w_frames, w_args, w_heap, w_applies, ⟨w_consts, trivial⟩, w_rest, w_case⟩
end start1
theorem witness_1 : WitnessClaimed_1 := ⟨start1.p0, start1.e0, start1.about1, start1.theMethod, start1.args0, start1.below0, start1.atStart⟩
end Jvm.Pilot.@@N@@
