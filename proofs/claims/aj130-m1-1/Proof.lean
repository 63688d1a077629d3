import JvmDerived
import JvmDerived.Pilot.@@N@@Statement
import JvmDerived.Pilot.@@N@@Code
set_option linter.unusedVariables false
set_option linter.unusedSimpArgs false
/- laws to paste: Road.backV, Road.codOf (cut by pick.py; bodies as the Statement names them) -/
namespace Jvm.Pilot.@@N@@
namespace StrChars
open Jvm Sem ClassFile Op Lib Jvm.Stand Jvm.Free.XT Jvm.Free.ALB Jvm.Free.JM Jvm.Free
open Jvm.Lib.Cold (StaticIs)
/-- a char array whose places are chars -/
def Ch (a : Addr) (A : Cell) (U : State) : Prop := Arr .char a A U ∧ Typed .char A
theorem Ch.mv {a : Addr} {A : Cell} {U U' : State} (h : Ch a A U) (hal : U.vm.Alike U'.vm) (hh : U'.heap = U.heap) : Ch a A U' := ⟨h.1.mv hal hh, h.2⟩
theorem Ch.keep {a : Addr} {A : Cell} {U U' : State} (h : Ch a A U) (hal : U.vm.Alike U'.vm) (hk : U'.heap[a]? = some A) : Ch a A U' := ⟨h.1.keep hal hk, h.2⟩
/-- what place i of a char[]'s cell holds -/
def cv (A : Cell) (i : Nat) : Int32 := match A.slots[i]? with | some (.int x) => x | _ => 0
theorem Ch.get {a : Addr} {A : Cell} {U : State} (h : Ch a A U) {i : Nat} (hi : i < A.slots.size) : A.slots[i]? = some (.int (cv A i)) := by
  have e := Array.getElem?_eq_getElem hi
  have f := h.2 i _ e
  unfold cv; rw [e]
  generalize A.slots[i] = v at f
  cases v <;> simp [fits] at f ⊢
/-- the byte that i2b leaves of a char -/
def lo8 (x : Int32) : Int32 := x.toInt8.toInt32
theorem fits_lo8 (y : Int32) : fits .byte (.int (lo8 y)) = true := by
  have h1 := y.toInt8.le_toInt
  have h2 := y.toInt8.toInt_lt
  simp only [lo8, fits, Bool.and_eq_true, decide_eq_true_eq, Int32.le_iff_toInt_le, Int8.toInt_toInt32, show (-128 : Int32).toInt = -128 from by decide, show (127 : Int32).toInt = 127 from by decide]
  omega
/-- A' is A but that each place j of lo .. hi - 1 holds f j -/
def Laid (A A' : Cell) (lo hi : Nat) (f : Nat → Value) : Prop := A'.cls = A.cls ∧ A'.vm = A.vm ∧ A'.slots.size = A.slots.size ∧ ∀ i, A'.slots[i]? = if lo ≤ i ∧ i < hi then some (f i) else A.slots[i]?
theorem Laid.zero (A : Cell) (lo : Nat) (f : Nat → Value) : Laid A A lo (lo + 0) f := ⟨rfl, rfl, rfl, fun i => by rw [if_neg (by omega)]⟩
theorem Laid.step {A Ak : Cell} {lo k : Nat} {f : Nat → Value} {v : Value} (h : Laid A Ak lo k f) (hlo : lo ≤ k) (hk : k < Ak.slots.size) (hv : v = f k) : Laid A (Ak.setSlot k v) lo (k + 1) f := by
  refine ⟨h.1, h.2.1, by simpa [Cell.setSlot] using h.2.2.1, fun i => ?_⟩
  by_cases e : k = i
  · subst e; rw [Cell.slots_setSlot_self v hk, if_pos (by omega), hv]
  · rw [Cell.slots_setSlot_ne v e, h.2.2.2 i]
    by_cases q : lo ≤ i ∧ i < k
    · rw [if_pos q, if_pos (by omega)]
    · rw [if_neg q, if_neg (by omega)]
def U16 : String := "java/lang/StringUTF16"
namespace Cmp5
def yN : MethodName := ⟨"java/lang/StringUTF16", "compress", "([CI[BII)I"⟩
abbrev yB : ByteArray := jdk_52_method_21_code
theorem d0 : decode yB 0 = .ok (.iconst 0, 1) := by decide +kernel
theorem d1 : decode yB 1 = .ok (.istore 5, 2) := by decide +kernel
theorem d3 : decode yB 3 = .ok (.iload 5, 2) := by decide +kernel
theorem d5 : decode yB 5 = .ok (.iload 4, 2) := by decide +kernel
theorem d7 : decode yB 7 = .ok (.if_icmp (.ge) 37, 3) := by decide +kernel
theorem d10 : decode yB 10 = .ok (.aload_n 0, 1) := by decide +kernel
theorem d11 : decode yB 11 = .ok (.iload_n 1, 1) := by decide +kernel
theorem d12 : decode yB 12 = .ok (.caload, 1) := by decide +kernel
theorem d13 : decode yB 13 = .ok (.istore 6, 2) := by decide +kernel
theorem d15 : decode yB 15 = .ok (.iload 6, 2) := by decide +kernel
theorem d17 : decode yB 17 = .ok (.sipush 255, 3) := by decide +kernel
theorem d20 : decode yB 20 = .ok (.if_icmp (.le) 6, 3) := by decide +kernel
theorem d26 : decode yB 26 = .ok (.aload_n 2, 1) := by decide +kernel
theorem d27 : decode yB 27 = .ok (.iload_n 3, 1) := by decide +kernel
theorem d28 : decode yB 28 = .ok (.iload 6, 2) := by decide +kernel
theorem d30 : decode yB 30 = .ok (.i2b, 1) := by decide +kernel
theorem d31 : decode yB 31 = .ok (.bastore, 1) := by decide +kernel
theorem d32 : decode yB 32 = .ok (.iinc 1 1, 3) := by decide +kernel
theorem d35 : decode yB 35 = .ok (.iinc 3 1, 3) := by decide +kernel
theorem d38 : decode yB 38 = .ok (.iinc 5 1, 3) := by decide +kernel
theorem d41 : decode yB 41 = .ok (.goto (-38), 3) := by decide +kernel
theorem d44 : decode yB 44 = .ok (.iload 4, 2) := by decide +kernel
theorem d46 : decode yB 46 = .ok (.ireturn, 1) := by decide +kernel
def site : List Cond := []
def tab : Cond := tabOf yN yB 7 (some .int) site
def P (b : Addr) (A : Cell) (d : Addr) (B : Cell) (o q len : Nat) (args : Array Value) (s : State) : Prop := args = #[.ref b, .int (Int32.ofNat o), .ref d, .int (Int32.ofNat q), .int (Int32.ofNat len)] ∧ Ch b A s ∧ Arr .byte d B s ∧ b ≠ d ∧ o + len ≤ A.slots.size ∧ q + len ≤ B.slots.size ∧ ∀ i, i < len → ¬ 255 < cv A (o + i)
def E (b : Addr) (A : Cell) (d : Addr) (B : Cell) (o q len : Nat) (r : Option Value) (s u : State) : Prop := r = some (.int (Int32.ofNat len)) ∧ ∃ B', Put d B' s u ∧ Laid B B' q (q + len) (fun j => Value.int (lo8 (cv A (o + (j - q)))))
/-- no char of the range above 255: len; the places written hold each char's low byte -/
theorem law (l : Launch) (b : Addr) (A : Cell) (d : Addr) (B : Cell) (o q len : Nat) : Law l yN 5 5 0 0 yB 7 (some .int) site (P b A d B o q len) (E b A d B o q len) (copyLocs d q len) 0 0 := by
  refine Law.of_walk (plainFor_of_name (by decide +kernel)) (by decide +kernel) (by decide +kernel) (by decide) (fun _ _ h => by rw [h.1]; rfl) (fun _ U U' hal hh h => ⟨h.1, h.2.1.mv hal hh, h.2.2.1.mv hal hh, h.2.2.2⟩) (fun r U U' V V' h1 hal h2 h => ⟨h.1, h.2.elim fun B' q => ⟨B', q.1.mv h1 h2, q.2⟩⟩) ?_
  intro p e s m args below meth c s₁ X0 hexec hbytes hml hret hlk hnm hown hh0 W hP
  obtain ⟨rfl, hA, hB, hne, l1, l2, hp⟩ := hP
  have c1 : Steps p.tables e below (s₁.setTop (entryFrame m #[.ref b, .int (Int32.ofNat o), .ref d, .int (Int32.ofNat q), .int (Int32.ofNat len)] 7)) (s₁.setTop (mkF m 0 #[.val (.ref b), .val (.int (Int32.ofNat o)), .val (.ref d), .val (.int (Int32.ofNat q)), .val (.int (Int32.ofNat len)), .unset, .unset] [])) := entry rfl
  have hA0 := hA.1.mv X0.warmed.alike hh0
  have hB0 := hB.mv X0.warmed.alike hh0
  have a31 := hA.1.2.2.2
  have c2 : Steps p.tables e below (s₁.setTop (entryFrame m #[.ref b, .int (Int32.ofNat o), .ref d, .int (Int32.ofNat q), .int (Int32.ofNat len)] 7)) (s₁.setTop (mkF m 3 #[.val (.ref b), .val (.int (Int32.ofNat o)), .val (.ref d), .val (.int (Int32.ofNat q)), .val (.int (Int32.ofNat len)), .val (.int 0), .unset] [])) := c1.trans (by
    refine iconstV X0.here hexec rfl 0 (hb hbytes d0) (by decide) ?_
    refine XS.istore X0.here hexec rfl (hb hbytes d1) rfl rfl ?_
    exact Steps.refl _)
  have loop : ∀ (r i : Nat), i + r = len → ∀ (z : Slot), (z = .unset ∨ ∃ w, z = .val w ∧ w.category = 1) → ∀ (Tl : State) (Bk : Cell), Stand p l e { frames := 0, locals := 0, cells := 0, slots := 0 } s m #[.ref b, .int (Int32.ofNat o), .ref d, .int (Int32.ofNat q), .int (Int32.ofNat len)] below meth c Tl ([] ++ copyLocs d q i) 0 0 → Put d Bk s₁ Tl → Laid B Bk q (q + i) (fun j => Value.int (lo8 (cv A (o + (j - q))))) →
      Steps p.tables e below (s₁.setTop (entryFrame m #[.ref b, .int (Int32.ofNat o), .ref d, .int (Int32.ofNat q), .int (Int32.ofNat len)] 7)) (Tl.setTop (mkF m 3 #[.val (.ref b), .val (.int (Int32.ofNat (o + i))), .val (.ref d), .val (.int (Int32.ofNat (q + i))), .val (.int (Int32.ofNat len)), .val (.int (Int32.ofNat i)), z] [])) → ∃ (T' : State) (B' : Cell) (z' : Slot), Stand p l e { frames := 0, locals := 0, cells := 0, slots := 0 } s m #[.ref b, .int (Int32.ofNat o), .ref d, .int (Int32.ofNat q), .int (Int32.ofNat len)] below meth c T' ([] ++ copyLocs d q len) 0 0 ∧ Put d B' s₁ T' ∧ Laid B B' q (q + len) (fun j => Value.int (lo8 (cv A (o + (j - q))))) ∧
      Steps p.tables e below (s₁.setTop (entryFrame m #[.ref b, .int (Int32.ofNat o), .ref d, .int (Int32.ofNat q), .int (Int32.ofNat len)] 7)) (T'.setTop (mkF m 3 #[.val (.ref b), .val (.int (Int32.ofNat (o + len))), .val (.ref d), .val (.int (Int32.ofNat (q + len))), .val (.int (Int32.ofNat len)), .val (.int (Int32.ofNat len)), z'] [])) := by
    intro r
    induction r with
    | zero =>
      intro i hi z hz Tl Bk Xl pl fl cl
      have hil : i = len := by omega
      rw [hil] at Xl fl cl
      exact ⟨Tl, Bk, z, Xl, pl, fl, cl⟩
    | succ r ih =>
      intro i hi z hz Tl Bk Xl pl fl cl
      have all := X0.warmed.alike.symm.trans Xl.warmed.alike
      have hAl := hA0.keep all (pl.other hne hA0.1)
      have hBk := hB0.like all pl.1 fl.1 fl.2.1 fl.2.2.1
      have hlt : q + i < Bk.slots.size := by rw [fl.2.2.1]; omega
      have c3 : Steps p.tables e below (s₁.setTop (entryFrame m #[.ref b, .int (Int32.ofNat o), .ref d, .int (Int32.ofNat q), .int (Int32.ofNat len)] 7)) (Tl.setTop (mkF m 12 #[.val (.ref b), .val (.int (Int32.ofNat (o + i))), .val (.ref d), .val (.int (Int32.ofNat (q + i))), .val (.int (Int32.ofNat len)), .val (.int (Int32.ofNat i)), z] [.int (Int32.ofNat (o + i)), .ref b])) := cl.trans (by
        refine XS.iload Xl.here hexec rfl (hb hbytes d3) rfl ?_
        refine XS.iload Xl.here hexec rfl (hb hbytes d5) rfl ?_
        refine XS.icmpNo Xl.here hexec rfl (hb hbytes d7) rfl (ii_ge_f (lt32 (by omega) (by omega))) ?_
        refine XS.aloadN Xl.here hexec rfl (hb hbytes d10) rfl rfl ?_
        refine XS.iloadN Xl.here hexec rfl (hb hbytes d11) rfl ?_
        exact Steps.refl _)
      have c4 : Steps p.tables e below (s₁.setTop (entryFrame m #[.ref b, .int (Int32.ofNat o), .ref d, .int (Int32.ofNat q), .int (Int32.ofNat len)] 7)) (Tl.setTop (mkF m 13 #[.val (.ref b), .val (.int (Int32.ofNat (o + i))), .val (.ref d), .val (.int (Int32.ofNat (q + i))), .val (.int (Int32.ofNat len)), .val (.int (Int32.ofNat i)), z] [.int (cv A (o + i))])) := c3.trans (by
        refine Xl.aget hexec hAl rfl (hA.get (i := o + i) (by omega)) rfl rfl (hb hbytes d12) ?_
        exact Steps.refl _)
      have c5 : Steps p.tables e below (s₁.setTop (entryFrame m #[.ref b, .int (Int32.ofNat o), .ref d, .int (Int32.ofNat q), .int (Int32.ofNat len)] 7)) (Tl.setTop (mkF m 15 #[.val (.ref b), .val (.int (Int32.ofNat (o + i))), .val (.ref d), .val (.int (Int32.ofNat (q + i))), .val (.int (Int32.ofNat len)), .val (.int (Int32.ofNat i)), .val (.int (cv A (o + i)))] [])) := c4.trans (by
        refine XS.istoreS Xl.here hexec rfl (hb hbytes d13) rfl rfl hz ?_
        exact Steps.refl _)
      have c6 : Steps p.tables e below (s₁.setTop (entryFrame m #[.ref b, .int (Int32.ofNat o), .ref d, .int (Int32.ofNat q), .int (Int32.ofNat len)] 7)) (Tl.setTop (mkF m 31 #[.val (.ref b), .val (.int (Int32.ofNat (o + i))), .val (.ref d), .val (.int (Int32.ofNat (q + i))), .val (.int (Int32.ofNat len)), .val (.int (Int32.ofNat i)), .val (.int (cv A (o + i)))] [.int (lo8 (cv A (o + i))), .int (Int32.ofNat (q + i)), .ref d])) := c5.trans (by
        refine XS.iload Xl.here hexec rfl (hb hbytes d15) rfl ?_
        refine sipushV Xl.here hexec rfl 255 (hb hbytes d17) (by decide) ?_
        refine XS.icmpYes Xl.here hexec rfl (pc0 := 20) rfl (hb hbytes d20) rfl (ii_le_t (hp i (by omega))) (by decide) rfl ?_
        refine XS.aloadN Xl.here hexec rfl (hb hbytes d26) rfl rfl ?_
        refine XS.iloadN Xl.here hexec rfl (hb hbytes d27) rfl ?_
        refine XS.iload Xl.here hexec rfl (hb hbytes d28) rfl ?_
        refine i2b Xl.here hexec rfl (hb hbytes d30) rfl ?_
        exact Steps.refl _)
      obtain ⟨T7, X7, p7, st7⟩ := Xl.aput hexec hBk rfl hlt rfl (fits_lo8 (cv A (o + i))) (g := (mkF m 31 #[.val (.ref b), .val (.int (Int32.ofNat (o + i))), .val (.ref d), .val (.int (Int32.ofNat (q + i))), .val (.int (Int32.ofNat len)), .val (.int (Int32.ofNat i)), .val (.int (cv A (o + i)))] [.int (lo8 (cv A (o + i))), .int (Int32.ofNat (q + i)), .ref d])) rfl (rest := []) rfl (hb hbytes d31)
      have c8 : Steps p.tables e below (s₁.setTop (entryFrame m #[.ref b, .int (Int32.ofNat o), .ref d, .int (Int32.ofNat q), .int (Int32.ofNat len)] 7)) (T7.setTop (mkF m 32 #[.val (.ref b), .val (.int (Int32.ofNat (o + i))), .val (.ref d), .val (.int (Int32.ofNat (q + i))), .val (.int (Int32.ofNat len)), .val (.int (Int32.ofNat i)), .val (.int (cv A (o + i)))] [])) := c6.trans (st7 _ (Steps.refl _))
      have c9 : Steps p.tables e below (s₁.setTop (entryFrame m #[.ref b, .int (Int32.ofNat o), .ref d, .int (Int32.ofNat q), .int (Int32.ofNat len)] 7)) (T7.setTop (mkF m 3 #[.val (.ref b), .val (.int (Int32.ofNat (o + i) + 1)), .val (.ref d), .val (.int (Int32.ofNat (q + i) + 1)), .val (.int (Int32.ofNat len)), .val (.int (Int32.ofNat i + 1)), .val (.int (cv A (o + i)))] [])) := c8.trans (by
        refine iincV X7.here hexec rfl 1 (hb hbytes d32) (by decide) rfl rfl ?_
        refine iincV X7.here hexec rfl 1 (hb hbytes d35) (by decide) rfl rfl ?_
        refine iincV X7.here hexec rfl 1 (hb hbytes d38) (by decide) rfl rfl ?_
        refine XS.goto X7.here hexec rfl (pc0 := 41) rfl (hb hbytes d41) (by decide) rfl ?_
        exact Steps.refl _)
      have c10 : Steps p.tables e below (s₁.setTop (entryFrame m #[.ref b, .int (Int32.ofNat o), .ref d, .int (Int32.ofNat q), .int (Int32.ofNat len)] 7)) (T7.setTop (mkF m 3 #[.val (.ref b), .val (.int (Int32.ofNat (o + (i + 1)))), .val (.ref d), .val (.int (Int32.ofNat (q + (i + 1)))), .val (.int (Int32.ofNat len)), .val (.int (Int32.ofNat (i + 1))), .val (.int (cv A (o + i)))] [])) := by
        have := c9
        rw [succ32, succ32, succ32] at this
        exact this
      exact ih (i + 1) (by omega) _ (Or.inr ⟨_, rfl, rfl⟩) T7 _ (by rw [copyLocs_step, ← List.append_assoc]; exact X7) (pl.trans p7) (fl.step (by omega) hlt (by simp)) c10
  obtain ⟨T9, B9, z9, X9, p9, f9, g9⟩ := loop len 0 (by omega) .unset (Or.inl rfl) s₁ B (by simpa [copyLocs] using X0) ⟨hB0.1, fun _ _ => rfl, rfl⟩ (Laid.zero _ _ _) c2
  have c11 : Steps p.tables e below (s₁.setTop (entryFrame m #[.ref b, .int (Int32.ofNat o), .ref d, .int (Int32.ofNat q), .int (Int32.ofNat len)] 7)) (T9.setTop (mkF m 46 #[.val (.ref b), .val (.int (Int32.ofNat (o + len))), .val (.ref d), .val (.int (Int32.ofNat (q + len))), .val (.int (Int32.ofNat len)), .val (.int (Int32.ofNat len)), z9] [.int (Int32.ofNat len)])) := g9.trans (by
    refine XS.iload X9.here hexec rfl (hb hbytes d3) rfl ?_
    refine XS.iload X9.here hexec rfl (hb hbytes d5) rfl ?_
    refine XS.icmpYes X9.here hexec rfl (pc0 := 7) rfl (hb hbytes d7) rfl (ii_ge_t (nlt32 (by omega) (Nat.le_refl _))) (by decide) rfl ?_
    refine XS.iload X9.here hexec rfl (hb hbytes d44) rfl ?_
    exact Steps.refl _)
  exact ⟨T9, some (.int (Int32.ofNat len)), _, _, _, X9, by simp, rfl, rfl, (fun h => by cases h), ⟨rfl, B9, p9.from hh0, f9⟩, fun fs hl => c11.trans (X9.ireturnOut hexec hret rfl (Or.inl rfl) (hb hbytes d46) hl)⟩
end Cmp5
namespace Cmp3
def yN : MethodName := ⟨"java/lang/StringUTF16", "compress", "([CII)[B"⟩
abbrev yB : ByteArray := jdk_52_method_16_code
theorem d0 : decode yB 0 = .ok (.iload_n 2, 1) := by decide +kernel
theorem d1 : decode yB 1 = .ok (.newarray .byte, 2) := by decide +kernel
theorem d3 : decode yB 3 = .ok (.astore_n 3, 1) := by decide +kernel
theorem d4 : decode yB 4 = .ok (.aload_n 0, 1) := by decide +kernel
theorem d5 : decode yB 5 = .ok (.iload_n 1, 1) := by decide +kernel
theorem d6 : decode yB 6 = .ok (.aload_n 3, 1) := by decide +kernel
theorem d7 : decode yB 7 = .ok (.iconst 0, 1) := by decide +kernel
theorem d8 : decode yB 8 = .ok (.iload_n 2, 1) := by decide +kernel
theorem d9 : decode yB 9 = .ok (.invokestatic 115, 3) := by decide +kernel
theorem d12 : decode yB 12 = .ok (.istore 4, 2) := by decide +kernel
theorem d14 : decode yB 14 = .ok (.iload 4, 2) := by decide +kernel
theorem d16 : decode yB 16 = .ok (.iload_n 2, 1) := by decide +kernel
theorem d17 : decode yB 17 = .ok (.if_icmp (.eq) 40, 3) := by decide +kernel
theorem d57 : decode yB 57 = .ok (.aload_n 3, 1) := by decide +kernel
theorem d58 : decode yB 58 = .ok (.areturn, 1) := by decide +kernel
def site : List Cond := [.arrayClass .byte, Cmp5.tab] ++ staticW U16 115 Cmp5.yN
def tab : Cond := tabOf yN yB 6 (some (.array .byte)) site
def P (b : Addr) (A : Cell) (o len : Nat) (args : Array Value) (s : State) : Prop := args = #[.ref b, .int (Int32.ofNat o), .int (Int32.ofNat len)] ∧ Ch b A s ∧ o + len ≤ A.slots.size ∧ len ≤ 536870912 ∧ ∀ i, i < len → ¬ 255 < cv A (o + i)
def E (b : Addr) (A : Cell) (o len : Nat) (r : Option Value) (s u : State) : Prop := NewArr .byte "[B" len (fun j => .int (lo8 (cv A (o + j)))) r s u ∧ u.heap.size = s.heap.size + 1
/-- no char of the range above 255: a new byte[] of their low bytes -/
theorem law (l : Launch) (b : Addr) (A : Cell) (o len : Nat) : Law l yN 3 3 1 18 yB 6 (some (.array .byte)) site (P b A o len) (E b A o len) [] 1 len := by
  refine Law.of_walk (plainFor_of_name (by decide +kernel)) (by decide +kernel) (by decide +kernel) (by decide) (fun _ _ h => by rw [h.1]; rfl) (fun _ U U' hal hh h => ⟨h.1, h.2.1.mv hal hh, h.2.2⟩) (fun r U U' V V' h1 hal h2 h => ⟨NewArr.mv r U U' V V' h1 hal h2 h.1, by rw [h1, h2]; exact h.2⟩) ?_
  intro p e s m args below meth c s₁ X0 hexec hbytes hml hret hlk hnm hown hh0 W hP
  obtain ⟨rfl, hA, l1, l2, hp⟩ := hP
  have a31 := hA.1.2.2.2
  have c1 : Steps p.tables e below (s₁.setTop (entryFrame m #[.ref b, .int (Int32.ofNat o), .int (Int32.ofNat len)] 6)) (s₁.setTop (mkF m 0 #[.val (.ref b), .val (.int (Int32.ofNat o)), .val (.int (Int32.ofNat len)), .unset, .unset, .unset] [])) := entry rfl
  have c2 : Steps p.tables e below (s₁.setTop (entryFrame m #[.ref b, .int (Int32.ofNat o), .int (Int32.ofNat len)] 6)) (s₁.setTop (mkF m 1 #[.val (.ref b), .val (.int (Int32.ofNat o)), .val (.int (Int32.ofNat len)), .unset, .unset, .unset] [.int (Int32.ofNat len)])) := c1.trans (by
    refine XS.iloadN X0.here hexec rfl (hb hbytes d0) rfl ?_
    exact Steps.refl _)
  obtain ⟨T3, B3, X3, ba3, bs3, bv3, bh3, bf3, st3⟩ := X0.anew hexec (atype := .byte) (wk W (.arrayClass .byte)) rfl (by show len * 1 ≤ _; omega) (by omega) (g := (mkF m 1 #[.val (.ref b), .val (.int (Int32.ofNat o)), .val (.int (Int32.ofNat len)), .unset, .unset, .unset] [.int (Int32.ofNat len)])) rfl (hb hbytes d1) (rest := []) rfl (Nat.le_refl _) (by show 0 + len ≤ len; omega)
  rw [hh0] at ba3 st3
  have kp3 : XT.Kept s T3 := (XT.Kept.of_eq hh0).push bh3
  have hA3 := hA.keep X3.warmed.alike (kp3 _ _ hA.1.1)
  have hne : b ≠ s.heap.size := hA.1.ne
  have c4 : Steps p.tables e below (s₁.setTop (entryFrame m #[.ref b, .int (Int32.ofNat o), .int (Int32.ofNat len)] 6)) (T3.setTop (mkF m 3 #[.val (.ref b), .val (.int (Int32.ofNat o)), .val (.int (Int32.ofNat len)), .unset, .unset, .unset] [.ref s.heap.size])) := c2.trans (st3 _ (Steps.refl _))
  have c5 : Steps p.tables e below (s₁.setTop (entryFrame m #[.ref b, .int (Int32.ofNat o), .int (Int32.ofNat len)] 6)) (T3.setTop (mkF m 9 #[.val (.ref b), .val (.int (Int32.ofNat o)), .val (.int (Int32.ofNat len)), .val (.ref s.heap.size), .unset, .unset] [.int (Int32.ofNat len), .int 0, .ref s.heap.size, .int (Int32.ofNat o), .ref b])) := c4.trans (by
    refine XS.astoreN X3.here hexec rfl (hb hbytes d3) rfl rfl rfl ?_
    refine XS.aloadN X3.here hexec rfl (hb hbytes d4) rfl rfl ?_
    refine XS.iloadN X3.here hexec rfl (hb hbytes d5) rfl ?_
    refine XS.aloadN X3.here hexec rfl (hb hbytes d6) rfl rfl ?_
    refine iconstV X3.here hexec rfl 0 (hb hbytes d7) (by decide) ?_
    refine XS.iloadN X3.here hexec rfl (hb hbytes d8) rfl ?_
    exact Steps.refl _)
  obtain ⟨v6, T6, X6, E6, g6⟩ := X3.callS hexec (Cmp5.law l b A s.heap.size B3 o 0 len) hown (wks W (staticW U16 115 Cmp5.yN)) (wk W Cmp5.tab) (W := 0) (Nat.le_of_ble_eq_true rfl) (Nat.le_of_ble_eq_true rfl) (Nat.le_refl _) (by show 0 + len + 0 ≤ len; omega) (g := (mkF m 9 #[.val (.ref b), .val (.int (Int32.ofNat o)), .val (.int (Int32.ofNat len)), .val (.ref s.heap.size), .unset, .unset] [.int (Int32.ofNat len), .int (Int32.ofNat 0), .ref s.heap.size, .int (Int32.ofNat o), .ref b])) rfl (by rw [hml]; rfl) c5 (argsL := [.ref b, .int (Int32.ofNat o), .ref s.heap.size, .int (Int32.ofNat 0), .int (Int32.ofNat len)]) (rest := []) rfl rfl (by show 2 * 0 + 0 ≤ _; decide) (hb hbytes d9) (⟨rfl, hA3, ba3, hne, l1, by rw [bs3]; simp, hp⟩)
  obtain ⟨rfl, B6, p6, f6⟩ := E6
  have c7 : Steps p.tables e below (s₁.setTop (entryFrame m #[.ref b, .int (Int32.ofNat o), .int (Int32.ofNat len)] 6)) (T6.setTop (mkF m 12 #[.val (.ref b), .val (.int (Int32.ofNat o)), .val (.int (Int32.ofNat len)), .val (.ref s.heap.size), .unset, .unset] [.int (Int32.ofNat len)])) := g6
  have c8 : Steps p.tables e below (s₁.setTop (entryFrame m #[.ref b, .int (Int32.ofNat o), .int (Int32.ofNat len)] 6)) (T6.setTop (mkF m 58 #[.val (.ref b), .val (.int (Int32.ofNat o)), .val (.int (Int32.ofNat len)), .val (.ref s.heap.size), .val (.int (Int32.ofNat len)), .unset] [.ref s.heap.size])) := c7.trans (by
    refine XS.istore X6.here hexec rfl (hb hbytes d12) rfl rfl ?_
    refine XS.iload X6.here hexec rfl (hb hbytes d14) rfl ?_
    refine XS.iloadN X6.here hexec rfl (hb hbytes d16) rfl ?_
    refine XS.icmpYes X6.here hexec rfl (pc0 := 17) rfl (hb hbytes d17) rfl (ii_eq_t rfl) (by decide) rfl ?_
    refine XS.aloadN X6.here hexec rfl (hb hbytes d57) rfl rfl ?_
    exact Steps.refl _)
  have X8 := X6.wide (L' := []) (cells' := 1) (slots' := len) (fun x hx hlt => by
    simp only [List.nil_append, copyLocs, List.mem_map, List.mem_range] at hx
    obtain ⟨i, -, rfl⟩ := hx
    exact absurd hlt (Nat.lt_irrefl _)) (Nat.le_refl _) (by omega)
  exact ⟨T6, some (.ref s.heap.size), _, _, _, X8, rfl, rfl, rfl, (fun h => by cases h), ⟨⟨rfl, B6, ba3.like (X3.warmed.alike.symm.trans X6.warmed.alike) p6.1 f6.1 f6.2.1 f6.2.2.1, f6.2.1.trans bv3, by rw [X6.warmed.alike.findClass, f6.1]; exact bf3, by rw [f6.2.2.1, bs3]; simp, fun j hj => by rw [f6.2.2.2 j, if_pos (by omega)]; rfl, kp3.put p6 (Nat.le_refl _)⟩, by rw [p6.2.2, bh3, hh0]; simp⟩, fun fs hl => c8.trans (X8.areturnOut hexec rfl hret rfl (hb hbytes d58) hl)⟩
end Cmp3
namespace CodL
def yN : MethodName := ⟨"java/lang/StringUTF16", "coderFromArrayLen", "([BI)B"⟩
abbrev yB : ByteArray := jdk_52_method_15_code
theorem d0 : decode yB 0 = .ok (.iload_n 1, 1) := by decide +kernel
theorem d1 : decode yB 1 = .ok (.aload_n 0, 1) := by decide +kernel
theorem d2 : decode yB 2 = .ok (.arraylength, 1) := by decide +kernel
theorem d3 : decode yB 3 = .ok (.isub, 1) := by decide +kernel
theorem d4 : decode yB 4 = .ok (.bipush 31, 2) := by decide +kernel
theorem d6 : decode yB 6 = .ok (.iushr, 1) := by decide +kernel
theorem d7 : decode yB 7 = .ok (.i2b, 1) := by decide +kernel
theorem d8 : decode yB 8 = .ok (.ireturn, 1) := by decide +kernel
def site : List Cond := []
def tab : Cond := tabOf yN yB 2 (some .byte) site
def P (d : Addr) (B : Cell) (args : Array Value) (s : State) : Prop := args = #[.ref d, .int (Int32.ofNat B.slots.size)] ∧ Arr .byte d B s
def E (r : Option Value) (s u : State) : Prop := XT.PureE (some (.int 0)) r s u
/-- an array as long as the number of chars: LATIN1 -/
theorem law (l : Launch) (d : Addr) (B : Cell) : Law l yN 2 2 0 0 yB 2 (some .byte) site (P d B) E [] 0 0 := by
  refine Law.of_walk (plainFor_of_name (by decide +kernel)) (by decide +kernel) (by decide +kernel) (by decide) (fun _ _ h => by rw [h.1]; rfl) (fun _ U U' hal hh h => ⟨h.1, h.2.mv hal hh⟩) (fun r U U' V V' h1 hal h2 h => XT.PureE.mv r U U' V V' h1 hal h2 h) ?_
  intro p e s m args below meth c s₁ X0 hexec hbytes hml hret hlk hnm hown hh0 W hP
  obtain ⟨rfl, hB⟩ := hP
  have hB0 := hB.mv X0.warmed.alike hh0
  have c1 : Steps p.tables e below (s₁.setTop (entryFrame m #[.ref d, .int (Int32.ofNat B.slots.size)] 2)) (s₁.setTop (mkF m 0 #[.val (.ref d), .val (.int (Int32.ofNat B.slots.size))] [])) := entry rfl
  have c2 : Steps p.tables e below (s₁.setTop (entryFrame m #[.ref d, .int (Int32.ofNat B.slots.size)] 2)) (s₁.setTop (mkF m 2 #[.val (.ref d), .val (.int (Int32.ofNat B.slots.size))] [.ref d, .int (Int32.ofNat B.slots.size)])) := c1.trans (by
    refine XS.iloadN X0.here hexec rfl (hb hbytes d0) rfl ?_
    refine XS.aloadN X0.here hexec rfl (hb hbytes d1) rfl rfl ?_
    exact Steps.refl _)
  have c3 : Steps p.tables e below (s₁.setTop (entryFrame m #[.ref d, .int (Int32.ofNat B.slots.size)] 2)) (s₁.setTop (mkF m 8 #[.val (.ref d), .val (.int (Int32.ofNat B.slots.size))] [.int (lo8 (ushr (Int32.ofNat B.slots.size - Int32.ofNat B.slots.size) 31))])) := c2.trans (by
    refine X0.alen hexec hB0 rfl rfl (hb hbytes d2) ?_
    refine XS.isub X0.here hexec rfl (hb hbytes d3) rfl ?_
    refine bipushV X0.here hexec rfl 31 (hb hbytes d4) (by decide) ?_
    refine iushr X0.here hexec rfl (hb hbytes d6) rfl ?_
    refine i2b X0.here hexec rfl (hb hbytes d7) rfl ?_
    exact Steps.refl _)
  have e0 : lo8 (ushr (Int32.ofNat B.slots.size - Int32.ofNat B.slots.size) 31) = 0 := by rw [Int32.sub_self]; decide
  rw [e0] at c3
  exact ⟨s₁, some (.int 0), _, _, _, X0, rfl, rfl, rfl, (fun h => by cases h), ⟨rfl, hh0⟩, fun fs hl => c3.trans (X0.ireturnOut hexec hret rfl (Or.inr (Or.inr (Or.inl rfl))) (hb hbytes d8) hl)⟩
end CodL
/-- the String at a is Latin-1 over a new byte[] (the heap's one new cell): the low bytes of the len chars of A from o on; every cell but a is kept -/
def Got (a : Addr) (D : Cell) (fV fC : Field) (A : Cell) (o len : Nat) (r : Option Value) (s u : State) : Prop := r = none ∧ ∃ D' V : Cell, Blank "java/lang/String" a D' u ∧ Same D D' [fV.slot, fC.slot] ∧ D'.slots[fV.slot]? = some (.ref s.heap.size) ∧ D'.slots[fC.slot]? = some (.int 0) ∧ Arr .byte s.heap.size V u ∧ V.vm = .none ∧ u.vm.findClass "[B" = some V.cls ∧ V.slots.size = len ∧ (∀ j, j < len → V.slots[j]? = some (.int (lo8 (cv A (o + j))))) ∧ (∀ (y : Addr) (c : Cell), y ≠ a → s.heap[y]? = some c → u.heap[y]? = some c) ∧ u.heap.size = s.heap.size + 1
theorem Got.mv {a : Addr} {D A : Cell} {fV fC : Field} {o len : Nat} : ∀ r (U U' V V' : State), U'.heap = U.heap → V.vm.Alike V'.vm → V'.heap = V.heap → Got a D fV fC A o len r U V → Got a D fV fC A o len r U' V' :=
  fun r U U' V V' h1 hal h2 ⟨e0, D', X, a1, a2, a3, a4, a5, a6, a7, a8, a9, a10, a11⟩ => ⟨e0, D', X, a1.mv hal h2, a2, by rw [h1]; exact a3, a4, by rw [h1]; exact a5.mv hal h2, a6, by rw [hal.findClass]; exact a7, a8, a9, by rw [h1, h2]; exact a10, by rw [h1, h2]; exact a11⟩
namespace New4
def yN : MethodName := ⟨"java/lang/String", "<init>", "([CIILjava/lang/Void;)V"⟩
abbrev yB : ByteArray := jdk_42_method_149_code
theorem d0 : decode yB 0 = .ok (.aload_n 0, 1) := by decide +kernel
theorem d1 : decode yB 1 = .ok (.invokespecial 1, 3) := by decide +kernel
theorem d4 : decode yB 4 = .ok (.iload_n 3, 1) := by decide +kernel
theorem d5 : decode yB 5 = .ok (.ifCond (.ne) 22, 3) := by decide +kernel
theorem d27 : decode yB 27 = .ok (.getstatic 38, 3) := by decide +kernel
theorem d30 : decode yB 30 = .ok (.ifCond (.eq) 28, 3) := by decide +kernel
theorem d33 : decode yB 33 = .ok (.aload_n 1, 1) := by decide +kernel
theorem d34 : decode yB 34 = .ok (.iload_n 2, 1) := by decide +kernel
theorem d35 : decode yB 35 = .ok (.iload_n 3, 1) := by decide +kernel
theorem d36 : decode yB 36 = .ok (.invokestatic 177, 3) := by decide +kernel
theorem d39 : decode yB 39 = .ok (.astore 5, 2) := by decide +kernel
theorem d41 : decode yB 41 = .ok (.aload_n 0, 1) := by decide +kernel
theorem d42 : decode yB 42 = .ok (.aload 5, 2) := by decide +kernel
theorem d44 : decode yB 44 = .ok (.iload_n 3, 1) := by decide +kernel
theorem d45 : decode yB 45 = .ok (.invokestatic 47, 3) := by decide +kernel
theorem d48 : decode yB 48 = .ok (.putfield 15, 3) := by decide +kernel
theorem d51 : decode yB 51 = .ok (.aload_n 0, 1) := by decide +kernel
theorem d52 : decode yB 52 = .ok (.aload 5, 2) := by decide +kernel
theorem d54 : decode yB 54 = .ok (.putfield 9, 3) := by decide +kernel
theorem d57 : decode yB 57 = .ok (.return_, 1) := by decide +kernel
def site : List Cond := [.fieldLink "java/lang/String" 38 "java/lang/String" "COMPACT_STRINGS" "Z", Cmp3.tab, CodL.tab, .laysFinal "java/lang/String" "java/lang/String" "value" "[B", .fieldLink "java/lang/String" 9 "java/lang/String" "value" "[B", .laysFinal "java/lang/String" "java/lang/String" "coder" "B", .fieldLink "java/lang/String" 15 "java/lang/String" "coder" "B"] ++ objW "java/lang/String" 1 ++ staticW "java/lang/String" 177 Cmp3.yN ++ staticW "java/lang/String" 47 CodL.yN
def tab : Cond := tabOf yN yB 6 none site
def P (a : Addr) (D : Cell) (fV fC : Field) (b : Addr) (A : Cell) (z : Int32) (o len : Nat) (args : Array Value) (s : State) : Prop := args = #[.ref a, .ref b, .int (Int32.ofNat o), .int (Int32.ofNat len), .null] ∧ Blank "java/lang/String" a D s ∧ Found "java/lang/String" "value" "[B" fV s ∧ Found "java/lang/String" "coder" "B" fC s ∧ Ch b A s ∧ StaticIs s "java/lang/String" "COMPACT_STRINGS" "Z" (.int z) ∧ ¬ z = 0 ∧ 0 < len ∧ o + len ≤ A.slots.size ∧ len ≤ 536870912 ∧ ∀ i, i < len → ¬ 255 < cv A (o + i)
def E (a : Addr) (D : Cell) (fV fC : Field) (A : Cell) (o len : Nat) (r : Option Value) (s u : State) : Prop := Got a D fV fC A o len r s u
/-- len > 0, no char of the range above 255: a Latin-1 String of their low bytes -/
theorem law (l : Launch) (a : Addr) (D : Cell) (fV fC : Field) (b : Addr) (A : Cell) (z : Int32) (o len : Nat) : Law l yN 5 4 2 35 yB 6 none site (P a D fV fC b A z o len) (E a D fV fC A o len) [⟨a, fC.slot⟩, ⟨a, fV.slot⟩] 1 len := by
  refine Law.of_walk (plainFor_of_name (by decide +kernel)) (by decide +kernel) (by decide +kernel) (by decide) (fun _ _ h => by rw [h.1]; rfl) (fun _ U U' hal hh h => ⟨h.1, h.2.1.mv hal hh, h.2.2.1.al hal, h.2.2.2.1.al hal, h.2.2.2.2.1.mv hal hh, h.2.2.2.2.2.1.there hal hh, h.2.2.2.2.2.2⟩) (fun r U U' V V' h1 hal h2 h => Got.mv r U U' V V' h1 hal h2 h) ?_
  intro p e s m args below meth c s₁ X0 hexec hbytes hml hret hlk hnm hown hh0 W hP
  obtain ⟨rfl, hB, f1, f2, hA, s1, hz, l0, l1, l2, hp⟩ := hP
  have a31 := hA.1.2.2.2
  have c1 : Steps p.tables e below (s₁.setTop (entryFrame m #[.ref a, .ref b, .int (Int32.ofNat o), .int (Int32.ofNat len), .null] 6)) (s₁.setTop (mkF m 0 #[.val (.ref a), .val (.ref b), .val (.int (Int32.ofNat o)), .val (.int (Int32.ofNat len)), .val .null, .unset] [])) := entry rfl
  have c2 : Steps p.tables e below (s₁.setTop (entryFrame m #[.ref a, .ref b, .int (Int32.ofNat o), .int (Int32.ofNat len), .null] 6)) (s₁.setTop (mkF m 1 #[.val (.ref a), .val (.ref b), .val (.int (Int32.ofNat o)), .val (.int (Int32.ofNat len)), .val .null, .unset] [.ref a])) := c1.trans (by
    refine XS.aloadN X0.here hexec rfl (hb hbytes d0) rfl rfl ?_
    exact Steps.refl _)
  obtain ⟨T3, X3, q3, st3⟩ := X0.oinit hexec hown (wks W (objW "java/lang/String" 1)) (g := (mkF m 1 #[.val (.ref a), .val (.ref b), .val (.int (Int32.ofNat o)), .val (.int (Int32.ofNat len)), .val .null, .unset] [.ref a])) rfl (by rw [hml]; rfl) (rest := []) rfl (hb hbytes d1) (W := 0) (by show 2 * 0 + 0 ≤ _; decide) (Nat.le_of_ble_eq_true rfl) (Nat.le_of_ble_eq_true rfl)
  have hh3 := q3.trans hh0
  have c4 : Steps p.tables e below (s₁.setTop (entryFrame m #[.ref a, .ref b, .int (Int32.ofNat o), .int (Int32.ofNat len), .null] 6)) (T3.setTop (mkF m 27 #[.val (.ref a), .val (.ref b), .val (.int (Int32.ofNat o)), .val (.int (Int32.ofNat len)), .val .null, .unset] [])) := (c2.trans (st3 _ (Steps.refl _))).trans (by
    refine XS.iloadN X3.here hexec rfl (hb hbytes d4) rfl ?_
    refine XS.ifYes X3.here hexec rfl (pc0 := 5) rfl (hb hbytes d5) rfl (i0_ne_t (nz32 (by omega) l0)) (by decide) rfl ?_
    exact Steps.refl _)
  obtain ⟨T5, X5, q5, st5⟩ := X3.sget hexec hown (wk W (.fieldLink "java/lang/String" 38 "java/lang/String" "COMPACT_STRINGS" "Z")) s1 (fun _ _ h => by rw [hh3]; exact h) (g := (mkF m 27 #[.val (.ref a), .val (.ref b), .val (.int (Int32.ofNat o)), .val (.int (Int32.ofNat len)), .val .null, .unset] [])) rfl (hb hbytes d27)
  have hh5 := q5.trans hh3
  have c6 : Steps p.tables e below (s₁.setTop (entryFrame m #[.ref a, .ref b, .int (Int32.ofNat o), .int (Int32.ofNat len), .null] 6)) (T5.setTop (mkF m 30 #[.val (.ref a), .val (.ref b), .val (.int (Int32.ofNat o)), .val (.int (Int32.ofNat len)), .val .null, .unset] [.int z])) := c4.trans (st5 _ (Steps.refl _))
  have c7 : Steps p.tables e below (s₁.setTop (entryFrame m #[.ref a, .ref b, .int (Int32.ofNat o), .int (Int32.ofNat len), .null] 6)) (T5.setTop (mkF m 36 #[.val (.ref a), .val (.ref b), .val (.int (Int32.ofNat o)), .val (.int (Int32.ofNat len)), .val .null, .unset] [.int (Int32.ofNat len), .int (Int32.ofNat o), .ref b])) := c6.trans (by
    refine XS.ifNo X5.here hexec rfl (hb hbytes d30) rfl (i0_eq_f hz) ?_
    refine XS.aloadN X5.here hexec rfl (hb hbytes d33) rfl rfl ?_
    refine XS.iloadN X5.here hexec rfl (hb hbytes d34) rfl ?_
    refine XS.iloadN X5.here hexec rfl (hb hbytes d35) rfl ?_
    exact Steps.refl _)
  obtain ⟨v8, T8, X8, E8, g8⟩ := X5.callS hexec (Cmp3.law l b A o len) hown (wks W (staticW "java/lang/String" 177 Cmp3.yN)) (wk W Cmp3.tab) (W := 0) (Nat.le_of_ble_eq_true rfl) (Nat.le_of_ble_eq_true rfl) (Nat.le_refl _) (by show 0 + len ≤ len; omega) (g := (mkF m 36 #[.val (.ref a), .val (.ref b), .val (.int (Int32.ofNat o)), .val (.int (Int32.ofNat len)), .val .null, .unset] [.int (Int32.ofNat len), .int (Int32.ofNat o), .ref b])) rfl (by rw [hml]; rfl) c7 (argsL := [.ref b, .int (Int32.ofNat o), .int (Int32.ofNat len)]) (rest := []) rfl rfl (by show 2 * 0 + 0 ≤ _; decide) (hb hbytes d36) (⟨rfl, hA.mv X5.warmed.alike hh5, l1, l2, hp⟩)
  obtain ⟨e8, z8⟩ := E8
  obtain ⟨rfl, N, n1, n2, n3, n4, n5, n6⟩ := NewArr.mv _ T5 s _ _ hh5.symm (Vm.Alike.refl _) rfl e8
  rw [hh5] at z8
  have hB1 := hB.keep X8.warmed.alike (n6 _ _ hB.1)
  have hne : s.heap.size ≠ a := (Nat.ne_of_lt (Array.getElem?_eq_some_iff.mp hB.1).1).symm
  have c9 : Steps p.tables e below (s₁.setTop (entryFrame m #[.ref a, .ref b, .int (Int32.ofNat o), .int (Int32.ofNat len), .null] 6)) (T8.setTop (mkF m 39 #[.val (.ref a), .val (.ref b), .val (.int (Int32.ofNat o)), .val (.int (Int32.ofNat len)), .val .null, .unset] [.ref s.heap.size])) := g8
  have c10 : Steps p.tables e below (s₁.setTop (entryFrame m #[.ref a, .ref b, .int (Int32.ofNat o), .int (Int32.ofNat len), .null] 6)) (T8.setTop (mkF m 45 #[.val (.ref a), .val (.ref b), .val (.int (Int32.ofNat o)), .val (.int (Int32.ofNat len)), .val .null, .val (.ref s.heap.size)] [.int (Int32.ofNat N.slots.size), .ref s.heap.size, .ref a])) := by
    have hc : Steps p.tables e below (s₁.setTop (entryFrame m #[.ref a, .ref b, .int (Int32.ofNat o), .int (Int32.ofNat len), .null] 6)) (T8.setTop (mkF m 45 #[.val (.ref a), .val (.ref b), .val (.int (Int32.ofNat o)), .val (.int (Int32.ofNat len)), .val .null, .val (.ref s.heap.size)] [.int (Int32.ofNat len), .ref s.heap.size, .ref a])) := c9.trans (by
      refine XS.astore X8.here hexec rfl (hb hbytes d39) rfl rfl rfl ?_
      refine XS.aloadN X8.here hexec rfl (hb hbytes d41) rfl rfl ?_
      refine XS.aload X8.here hexec rfl (hb hbytes d42) rfl rfl ?_
      refine XS.iloadN X8.here hexec rfl (hb hbytes d44) rfl ?_
      exact Steps.refl _)
    rw [n4]; exact hc
  obtain ⟨v11, T11, X11, E11, g11⟩ := X8.callS hexec (CodL.law l s.heap.size N) hown (wks W (staticW "java/lang/String" 47 CodL.yN)) (wk W CodL.tab) (W := 1) (Nat.le_of_ble_eq_true rfl) (Nat.le_of_ble_eq_true rfl) (Nat.le_refl _) (by show 0 + len + 0 ≤ len; omega) (g := (mkF m 45 #[.val (.ref a), .val (.ref b), .val (.int (Int32.ofNat o)), .val (.int (Int32.ofNat len)), .val .null, .val (.ref s.heap.size)] [.int (Int32.ofNat N.slots.size), .ref s.heap.size, .ref a])) rfl (by rw [hml]; rfl) c10 (argsL := [.ref s.heap.size, .int (Int32.ofNat N.slots.size)]) (rest := [.ref a]) rfl rfl (by show 2 * 0 + (1 + 0) ≤ _; decide) (hb hbytes d45) (⟨rfl, n1⟩)
  obtain ⟨rfl, q11⟩ := E11
  have hB11 := hB1.mv (X8.warmed.alike.symm.trans X11.warmed.alike) q11
  have c12 : Steps p.tables e below (s₁.setTop (entryFrame m #[.ref a, .ref b, .int (Int32.ofNat o), .int (Int32.ofNat len), .null] 6)) (T11.setTop (mkF m 48 #[.val (.ref a), .val (.ref b), .val (.int (Int32.ofNat o)), .val (.int (Int32.ofNat len)), .val .null, .val (.ref s.heap.size)] [.int 0, .ref a])) := g11
  obtain ⟨T13, X13, p13, bl13, sl13, st13⟩ := X11.finit hexec hown (wk W (.fieldLink "java/lang/String" 15 "java/lang/String" "coder" "B")) (Or.inr ⟨_, (wk W (.laysFinal "java/lang/String" "java/lang/String" "coder" "B"))⟩) (Or.inl ⟨rfl, hnm⟩) f2 (Or.inl rfl) hB11 (t := .byte) (by decide +kernel) rfl (g := (mkF m 48 #[.val (.ref a), .val (.ref b), .val (.int (Int32.ofNat o)), .val (.int (Int32.ofNat len)), .val .null, .val (.ref s.heap.size)] [.int 0, .ref a])) rfl (rest := []) rfl (hb hbytes d48)
  have c14 : Steps p.tables e below (s₁.setTop (entryFrame m #[.ref a, .ref b, .int (Int32.ofNat o), .int (Int32.ofNat len), .null] 6)) (T13.setTop (mkF m 54 #[.val (.ref a), .val (.ref b), .val (.int (Int32.ofNat o)), .val (.int (Int32.ofNat len)), .val .null, .val (.ref s.heap.size)] [.ref s.heap.size, .ref a])) := (c12.trans (st13 _ (Steps.refl _))).trans (by
    refine XS.aloadN X13.here hexec rfl (hb hbytes d51) rfl rfl ?_
    refine XS.aload X13.here hexec rfl (hb hbytes d52) rfl rfl ?_
    exact Steps.refl _)
  obtain ⟨T15, X15, p15, bl15, sl15, st15⟩ := X13.finit hexec hown (wk W (.fieldLink "java/lang/String" 9 "java/lang/String" "value" "[B")) (Or.inr ⟨_, (wk W (.laysFinal "java/lang/String" "java/lang/String" "value" "[B"))⟩) (Or.inl ⟨rfl, hnm⟩) f1 (Or.inl rfl) bl13 (t := (.array .byte)) (by decide +kernel) rfl (g := (mkF m 54 #[.val (.ref a), .val (.ref b), .val (.int (Int32.ofNat o)), .val (.int (Int32.ofNat len)), .val .null, .val (.ref s.heap.size)] [.ref s.heap.size, .ref a])) rfl (rest := []) rfl (hb hbytes d54)
  have c16 : Steps p.tables e below (s₁.setTop (entryFrame m #[.ref a, .ref b, .int (Int32.ofNat o), .int (Int32.ofNat len), .null] 6)) (T15.setTop (mkF m 57 #[.val (.ref a), .val (.ref b), .val (.int (Int32.ofNat o)), .val (.int (Int32.ofNat len)), .val .null, .val (.ref s.heap.size)] [])) := c14.trans (st15 _ (Steps.refl _))
  have ap := apart (Or.inr ⟨_, (wk W (.laysFinal "java/lang/String" "java/lang/String" "value" "[B"))⟩) (Or.inr ⟨_, (wk W (.laysFinal "java/lang/String" "java/lang/String" "coder" "B"))⟩) f1 f2 (t₁ := .array .byte) (t₂ := .byte) (by decide +kernel) (by decide +kernel) (by decide)
  have al := X8.warmed.alike.symm.trans X15.warmed.alike
  have n7 : T11.heap[s.heap.size]? = some N := by rw [q11]; exact n1.1
  exact ⟨T15, none, _, _, _, X15, by simp, rfl, by omega, (fun _ => rfl), ⟨rfl, _, N, bl15, ((Same.refl D _).set _ (by simp)).set _ (by simp), sl15, (Cell.slots_setSlot_ne _ ap).trans sl13, n1.keep al (p15.other hne (p13.other hne n7)), n2, by rw [al.findClass]; exact n3, n4, n5, fun y c h1 h2 => p15.other h1 (p13.other h1 (by rw [q11]; exact n6 y c h2)), by rw [p15.2.2, p13.2.2, q11]; exact z8⟩, fun fs hl => c16.trans (X15.returnOut hexec hret (hb hbytes d57) hl)⟩
end New4
namespace New1
def yN : MethodName := ⟨"java/lang/String", "<init>", "([C)V"⟩
abbrev yB : ByteArray := jdk_42_method_3_code
theorem d0 : decode yB 0 = .ok (.aload_n 0, 1) := by decide +kernel
theorem d1 : decode yB 1 = .ok (.aload_n 1, 1) := by decide +kernel
theorem d2 : decode yB 2 = .ok (.iconst 0, 1) := by decide +kernel
theorem d3 : decode yB 3 = .ok (.aload_n 1, 1) := by decide +kernel
theorem d4 : decode yB 4 = .ok (.arraylength, 1) := by decide +kernel
theorem d5 : decode yB 5 = .ok (.aconst_null, 1) := by decide +kernel
theorem d6 : decode yB 6 = .ok (.invokespecial 27, 3) := by decide +kernel
theorem d9 : decode yB 9 = .ok (.return_, 1) := by decide +kernel
def site : List Cond := [New4.tab] ++ initW "java/lang/String" 27 New4.yN
def tab : Cond := tabOf yN yB 2 none site
def P (a : Addr) (D : Cell) (fV fC : Field) (b : Addr) (A : Cell) (z : Int32) (args : Array Value) (s : State) : Prop := args = #[.ref a, .ref b] ∧ Blank "java/lang/String" a D s ∧ Found "java/lang/String" "value" "[B" fV s ∧ Found "java/lang/String" "coder" "B" fC s ∧ Ch b A s ∧ StaticIs s "java/lang/String" "COMPACT_STRINGS" "Z" (.int z) ∧ ¬ z = 0 ∧ 0 < A.slots.size ∧ A.slots.size ≤ 536870912 ∧ ∀ i, i < A.slots.size → ¬ 255 < cv A i
def E (a : Addr) (D : Cell) (fV fC : Field) (A : Cell) (r : Option Value) (s u : State) : Prop := Got a D fV fC A 0 A.slots.size r s u
/-- new String(chars), not empty, no char above 255: a Latin-1 String of their low bytes -/
theorem law (l : Launch) (a : Addr) (D : Cell) (fV fC : Field) (b : Addr) (A : Cell) (z : Int32) : Law l yN 2 1 3 52 yB 2 none site (P a D fV fC b A z) (E a D fV fC A) [⟨a, fC.slot⟩, ⟨a, fV.slot⟩] 1 A.slots.size := by
  refine Law.of_walk (plainFor_of_name (by decide +kernel)) (by decide +kernel) (by decide +kernel) (by decide) (fun _ _ h => by rw [h.1]; rfl) (fun _ U U' hal hh h => ⟨h.1, h.2.1.mv hal hh, h.2.2.1.al hal, h.2.2.2.1.al hal, h.2.2.2.2.1.mv hal hh, h.2.2.2.2.2.1.there hal hh, h.2.2.2.2.2.2⟩) (fun r U U' V V' h1 hal h2 h => Got.mv r U U' V V' h1 hal h2 h) ?_
  intro p e s m args below meth c s₁ X0 hexec hbytes hml hret hlk hnm hown hh0 W hP
  obtain ⟨rfl, hB, f1, f2, hA, s1, hz, l0, l2, hp⟩ := hP
  have c1 : Steps p.tables e below (s₁.setTop (entryFrame m #[.ref a, .ref b] 2)) (s₁.setTop (mkF m 0 #[.val (.ref a), .val (.ref b)] [])) := entry rfl
  have c2 : Steps p.tables e below (s₁.setTop (entryFrame m #[.ref a, .ref b] 2)) (s₁.setTop (mkF m 6 #[.val (.ref a), .val (.ref b)] [.null, .int (Int32.ofNat A.slots.size), .int 0, .ref b, .ref a])) := c1.trans (by
    refine XS.aloadN X0.here hexec rfl (hb hbytes d0) rfl rfl ?_
    refine XS.aloadN X0.here hexec rfl (hb hbytes d1) rfl rfl ?_
    refine iconstV X0.here hexec rfl 0 (hb hbytes d2) (by decide) ?_
    refine XS.aloadN X0.here hexec rfl (hb hbytes d3) rfl rfl ?_
    refine X0.alen hexec (hA.1.mv X0.warmed.alike hh0) rfl rfl (hb hbytes d4) ?_
    refine XS.aconstNull X0.here hexec rfl (hb hbytes d5) ?_
    exact Steps.refl _)
  obtain ⟨v3, T3, X3, E3, g3⟩ := X0.callN hexec (New4.law l a D fV fC b A z 0 A.slots.size) rfl hown (wks W (initW "java/lang/String" 27 New4.yN)) (W New4.tab (by simp only [site, List.mem_cons, List.mem_append, true_or, or_true])) (W := 0) (Nat.le_of_ble_eq_true rfl) (Nat.le_of_ble_eq_true rfl) (Nat.le_refl _) (by show 0 + A.slots.size ≤ A.slots.size; omega) (g := (mkF m 6 #[.val (.ref a), .val (.ref b)] [.null, .int (Int32.ofNat A.slots.size), .int (Int32.ofNat 0), .ref b, .ref a])) rfl (by rw [hml]; rfl) c2 (argsL := [.ref b, .int (Int32.ofNat 0), .int (Int32.ofNat A.slots.size), .null]) (rest := []) rfl rfl (by show 2 * 0 + 0 ≤ _; decide) (hb hbytes d6) (⟨rfl, hB.mv X0.warmed.alike hh0, f1.al X0.warmed.alike, f2.al X0.warmed.alike, hA.mv X0.warmed.alike hh0, s1.there X0.warmed.alike hh0, hz, l0, by omega, l2, fun i hi => by rw [Nat.zero_add]; exact hp i hi⟩)
  have e0 := Got.mv _ s₁ s _ _ hh0.symm (Vm.Alike.refl _) rfl E3
  obtain rfl := e0.1
  have c4 : Steps p.tables e below (s₁.setTop (entryFrame m #[.ref a, .ref b] 2)) (T3.setTop (mkF m 9 #[.val (.ref a), .val (.ref b)] [])) := g3
  exact ⟨T3, none, _, _, _, X3, by simp, rfl, by omega, (fun _ => rfl), e0, fun fs hl => c4.trans (X3.returnOut hexec hret (hb hbytes d9) hl)⟩
theorem pays {l : Launch} {R : Room} {p : Program} {e : Env} {below : List Frame} {s : State} {sargs : Array Value} {len W : Nat} (a : Addr) (D : Cell) (fV fC : Field) (b : Addr) (A : Cell) (z : Int32) (htab : tab.before sargs s = true) (hfr : 4 ≤ R.frames) (hlo : W + 65 ≤ R.locals) :
    Back l R p e below s sargs yN len W (fun A₁ a₁ => A₁.cells + 1 ≤ R.cells ∧ A₁.slots + A.slots.size ≤ R.slots ∧ P a D fV fC b A z a₁ A₁.U) (fun A₁ _ v₁ B₁ => E a D fV fC A v₁ A₁.U B₁.U ∧ B₁.locs = A₁.locs ++ [⟨a, fC.slot⟩, ⟨a, fV.slot⟩] ∧ B₁.cells = A₁.cells + 1 ∧ B₁.slots = A₁.slots + A.slots.size) :=
  (law l a D fV fC b A z).pays htab hfr (by omega)
end New1
end StrChars
namespace StrChars.Road
open Jvm Sem ClassFile Op Lib Jvm.Stand Jvm.Free Jvm.Free.XT
open Jvm.Lib.Cold (StaticIs)
abbrev ST : String := "java/lang/String"
/-- every table word that New1's law asks, flat -/
abbrev words : List Jvm.Cond := [.code New1.yN New1.yB 2 none, .initialized ST, .methodLink ST 27 New4.yN, .instanceMethod New4.yN,
  .code New4.yN New4.yB 6 none, .fieldLink ST 38 ST "COMPACT_STRINGS" "Z", .laysFinal ST ST "value" "[B", .fieldLink ST 9 ST "value" "[B", .laysFinal ST ST "coder" "B", .fieldLink ST 15 ST "coder" "B",
  .methodLink ST 1 Lib.objectInit, .instanceMethod Lib.objectInit, .code Lib.objectInit ⟨#[0xb1]⟩ 1 none, .methodLink ST 177 Cmp3.yN, .static Cmp3.yN, .methodLink ST 47 CodL.yN, .static CodL.yN,
  .code Cmp3.yN Cmp3.yB 6 (some (.array .byte)), .initialized U16, .arrayClass .byte, .methodLink U16 115 Cmp5.yN, .static Cmp5.yN, .code Cmp5.yN Cmp5.yB 7 (some .int), .code CodL.yN CodL.yB 2 (some .byte)]
theorem tab_of {a : Array Value} {s : State} (h : ∀ w ∈ words, w.before a s = true) : New1.tab.before a s = true := by
  have h5 : Cmp5.tab.before a s = true := unparts (wk h (.code Cmp5.yN Cmp5.yB 7 (some .int))) (wks h (.initialized Cmp5.yN.cls :: Cmp5.site))
  have hc : CodL.tab.before a s = true := unparts (wk h (.code CodL.yN CodL.yB 2 (some .byte))) (wks h (.initialized CodL.yN.cls :: CodL.site))
  have q5 : ∀ w ∈ Cmp5.tab :: words, w.before a s = true := fun w hw => (List.mem_cons.mp hw).elim (fun e => e ▸ h5) (h w)
  have h3 : Cmp3.tab.before a s = true := unparts (wk q5 (.code Cmp3.yN Cmp3.yB 6 (some (.array .byte)))) (wks q5 (.initialized Cmp3.yN.cls :: Cmp3.site))
  have q3 : ∀ w ∈ Cmp3.tab :: CodL.tab :: words, w.before a s = true := fun w hw => (List.mem_cons.mp hw).elim (fun e => e ▸ h3) fun hw => (List.mem_cons.mp hw).elim (fun e => e ▸ hc) (h w)
  have h4 : New4.tab.before a s = true := unparts (wk q3 (.code New4.yN New4.yB 6 none)) (wks q3 (.initialized New4.yN.cls :: New4.site))
  have q4 : ∀ w ∈ New4.tab :: words, w.before a s = true := fun w hw => (List.mem_cons.mp hw).elim (fun e => e ▸ h4) (h w)
  exact unparts (wk q4 (.code New1.yN New1.yB 2 none)) (wks q4 (.initialized New1.yN.cls :: New1.site))
/-- the words ride from the start Z to the walk's own state -/
theorem moved {Z s : State} {a0 args : Array Value} (hZ : Z.Warmed39 s.vm) (hw : ∀ d ∈ words, d.before a0 Z = true) : ∀ d ∈ words, d.before args s = true := fun d hd => by
  have q := hw d hd
  have t : ∀ d ∈ words, d = .arrayClass .byte ∨ (d.onTables && d.keepsFace) = true := by decide +kernel
  rcases t d hd with rfl | t
  · exact RoadKit.mvA hZ q
  · exact RoadKit.mv hZ q t
/-- WHAT COMES BACK, over the tables of the start Z: h the heap at the call, h' behind it -/
def Q (Z : State) (x : Addr) (A : Cell) (h : Heap) (v : Option Value) (h' : Heap) (L : List Loc) : Prop := v = none ∧ (∀ y ∈ L, y.base = x) ∧ RoadKit.Keep h h' [x] ∧ h'.size = h.size + 1 ∧ RoadKit.Exa Z h' x ST ∧ RoadKit.Fld Z h' x ST "value" "[B" (.ref h.size) ∧ RoadKit.Fld Z h' x ST "coder" "B" (.int 0) ∧
  (∃ V : Cell, RoadKit.Arr Z h' h.size V .byte ∧ V.vm = .none ∧ Z.vm.findClass "[B" = some V.cls ∧ V.slots.size = A.slots.size ∧ ∀ j, j < A.slots.size → V.slots[j]? = some (.int (lo8 (cv A j)))) ∧
  ∀ (O n d : String) (w : Value), RoadKit.Fld Z h x O n d w → RoadKit.slotOf Z O n d ≠ RoadKit.slotOf Z ST "value" "[B" → RoadKit.slotOf Z O n d ≠ RoadKit.slotOf Z ST "coder" "B" → RoadKit.Fld Z h' x O n d w
/-- **new String(chars) AT A CALL, IN THE ROAD'S FORM**: for specialBack behind newO: x the fresh String, b the char[] with the cell A -/
theorem back {p : Program} {l : Launch} {e : Env} {R : Room} {s : State} {args : Array Value} {below : List Frame} {len W : Nat} {Z : State} {a0 : Array Value} {h : Heap} (hZ : Z.Warmed39 s.vm) (hw : ∀ d ∈ words, d.before a0 Z = true) {kI : Nat} (wi : (Jvm.Cond.instantiable ST kI).before a0 Z = true)
    {x b : Addr} {A : Cell} {z : Int32} {v0 c0 : Value} (E : RoadKit.Exa Z h x ST) (V : RoadKit.Fld Z h x ST "value" "[B" v0) (C : RoadKit.Fld Z h x ST "coder" "B" c0) (K : RoadKit.Arr Z h b A .char) (hty : Typed .char A) (S : RoadKit.Sta Z h ST "COMPACT_STRINGS" "Z" (.int z)) (hz : ¬ z = 0)
    (l0 : 0 < A.slots.size) (l2 : A.slots.size ≤ 536870912) (hp : ∀ i, i < A.slots.size → ¬ 255 < cv A i) (hfr : 4 ≤ R.frames) (hlo : W + 65 ≤ R.locals) :
    Back l R p e below s args New1.yN len W (fun P a => a = #[.ref x, .ref b] ∧ P.U.heap = h ∧ P.cells + 1 ≤ R.cells ∧ P.slots + A.slots.size ≤ R.slots)
      (fun P _ v B => ∃ L, Q Z x A h v B.U.heap L ∧ B.locs = P.locs ++ L ∧ B.cells = P.cells + 1 ∧ B.slots = P.slots + A.slots.size) := by
  intro m meth c P g ig mk a X hg hsize hdg hW hn hp'
  obtain ⟨rfl, rfl, r1, r2⟩ := hp'
  have al : Z.vm.Alike P.U.vm := hZ.alike.trans X.warmed.alike
  obtain ⟨D, cfV, kV, iV, fV, hD, gV, stV, knV, obV, asV, slV⟩ := id V
  obtain ⟨D', cfC, kC, iC, fC, hD', gC, stC, -, -, asC, slC⟩ := id C
  cases hD.symm.trans hD'
  obtain ⟨D2, kD, e1, e2, e3, e4, e5⟩ := id E
  cases hD.symm.trans e1
  obtain ⟨c2, k2, i1, i2, i3, -⟩ := Cond.instantiable_spec wi
  cases e2.symm.trans i1
  cases e3.symm.trans i2
  obtain ⟨kU, u1, u2⟩ := al.2.2 _ _ e3
  have hB : Blank ST x D P.U := ⟨hD, ⟨knV, fun q hq => by rw [hq] at obV; cases obV⟩, by rw [al.findClass]; exact e2, kU, u1, by rw [u2]; exact i3, by rw [u2]; exact e5 i3⟩
  have F1 : Found ST "value" "[B" fV P.U := ⟨SBG.found_only al ⟨cfV, kV, iV, gV⟩, stV⟩
  have F2 : Found ST "coder" "B" fC P.U := ⟨SBG.found_only al ⟨cfC, kC, iC, gC⟩, stC⟩
  have hA : Ch b A P.U := ⟨⟨K.1, State.isArrayOf_alike al K.2.1, K.2.2, by omega⟩, hty⟩
  have hS : StaticIs P.U ST "COMPACT_STRINGS" "Z" (.int z) := by
    obtain ⟨cfS, iS, kS, fS, st, cS, t1, t2, t3, t4, t5, t6, t7⟩ := S
    exact StaticIs.there (s := { Z with heap := P.U.heap }) ⟨cfS, iS, kS, fS, st, cS, t1, t2, t3, t4, t5, (fun q => by rw [q] at t6; cases t6), t7⟩ al rfl
  obtain ⟨v, B, X', ⟨⟨hv, E', V', q1, q2, q3, q4, q5, q6, q7, q8, q9, q10, q11⟩, hl, hc, hs⟩, st⟩ := New1.pays x D fV fC b A z (tab_of (moved hZ hw)) hfr hlo m meth c P g ig mk _ X hg hsize hdg hW hn ⟨r1, r2, rfl, hB, F1, F2, hA, hS, hz, l0, l2, hp⟩
  have al' : Z.vm.Alike B.U.vm := hZ.alike.trans X'.warmed.alike
  have hsz : E'.slots.size = D.slots.size := by
    obtain ⟨-, -, -, kB, w1, w2, w3⟩ := q1
    obtain ⟨kB', y1, y2⟩ := al'.2.2 _ _ e3
    rw [q2.2.1] at w1
    cases w1.symm.trans y1
    rw [w3, e5 i3, y2]
  refine ⟨v, B, X', ⟨_, ⟨hv, ?_, ⟨by omega, fun y cy hy hn' => q10 y cy (by simpa using hn') hy, fun y cy hy => ?_⟩, q11, ⟨E', _, q1.1, by rw [q2.2.1]; exact e2, by rw [q2.2.1]; exact e3, by rw [q2.1]; exact obV, fun _ => by rw [hsz]; exact e5 i3⟩,
    ⟨E', cfV, kV, iV, fV, q1.1, gV, stV, by rw [q2.1]; exact knV, by rw [q2.1]; exact obV, by rw [q2.2.1]; exact asV, q3⟩, ⟨E', cfC, kC, iC, fC, q1.1, gC, stC, by rw [q2.1]; exact knV, by rw [q2.1]; exact obV, by rw [q2.2.1]; exact asC, q4⟩,
    ⟨V', ⟨q5.1, State.isArrayOf_alike al'.symm q5.2.1, q5.2.2.1⟩, q6, by rw [← al'.findClass]; exact q7, q8, fun j hj => by have := q9 j hj; rwa [Nat.zero_add] at this⟩, fun O n d w F n1 n2 => ?_⟩, hl, hc, hs⟩, st⟩
  · intro y hy
    simp only [List.mem_cons, List.not_mem_nil, or_false] at hy
    rcases hy with rfl | rfl <;> rfl
  · by_cases q : y = x
    · subst q
      cases hD.symm.trans hy
      exact ⟨E', q1.1, q2.2.1, q2.1, hsz⟩
    · exact ⟨cy, q10 y cy q hy, rfl, rfl, rfl⟩
  · obtain ⟨D3, cf, k, i, f, g1, g2, g3, g4, g5, g6, g7⟩ := F
    cases hD.symm.trans g1
    simp only [RoadKit.slotOf, g2, gV, gC, Option.map_some, Option.getD_some] at n1 n2
    exact ⟨E', cf, k, i, f, q1.1, g2, g3, by rw [q2.1]; exact g4, by rw [q2.1]; exact g5, by rw [q2.2.1]; exact g6, by rw [q2.2.2 f.slot (by simp [n1, n2])]; exact g7⟩
end StrChars.Road
namespace StrChars.Road
open Jvm Sem ClassFile Op Lib Jvm.Stand Jvm.Free Jvm.Free.XT
/-- WHAT COMES BACK, the byte[] as a list of values -/
def QA (Z : State) (x : Addr) (zn : Int32) (cs : List Int32) (h : Heap) (v : Option Value) (h' : Heap) (L : List Loc) : Prop := v = none ∧ (∀ y ∈ L, y.base = x) ∧ RoadKit.Keep h h' [x] ∧ h'.size = h.size + 1 ∧ RoadKit.Exa Z h' x ST ∧ RoadKit.Fld Z h' x ST "value" "[B" (.ref h.size) ∧ RoadKit.Fld Z h' x ST "coder" "B" (.int 0) ∧
  (∃ kb, Z.vm.findClass "[B" = some kb ∧ RoadKit.Arv Z h' h.size kb .byte zn (cs.map fun c => .int (lo8 c)) (.int 0)) ∧
  ∀ (O n d : String) (w : Value), RoadKit.Fld Z h x O n d w → RoadKit.slotOf Z O n d ≠ RoadKit.slotOf Z ST "value" "[B" → RoadKit.slotOf Z O n d ≠ RoadKit.slotOf Z ST "coder" "B" → RoadKit.Fld Z h' x O n d w
/-- **new String(chars) AT A CALL, THE ARRAYS AS LISTS**: the char[] at b holds cs, not empty, no char above 255 -/
theorem backArv {p : Program} {l : Launch} {e : Env} {R : Room} {s : State} {args : Array Value} {below : List Frame} {len W : Nat} {Z : State} {a0 : Array Value} {h : Heap} (hZ : Z.Warmed39 s.vm) (hw : ∀ d ∈ words, d.before a0 Z = true) {kI : Nat} (wi : (Jvm.Cond.instantiable ST kI).before a0 Z = true)
    {x b : Addr} {k : ClassId} {zn z : Int32} {cs : List Int32} {dv v0 c0 : Value} (E : RoadKit.Exa Z h x ST) (V : RoadKit.Fld Z h x ST "value" "[B" v0) (C : RoadKit.Fld Z h x ST "coder" "B" c0) (K : RoadKit.Arv Z h b k .char zn (cs.map Value.int) dv) (S : RoadKit.Sta Z h ST "COMPACT_STRINGS" "Z" (.int z)) (hz : ¬ z = 0)
    (hlen : zn.toNatClampNeg = cs.length) (h0 : 0 < cs.length) (hbig : cs.length ≤ 536870912) (hall : ∀ c ∈ cs, ¬ 255 < c) (hfr : 4 ≤ R.frames) (hlo : W + 65 ≤ R.locals) :
    Back l R p e below s args New1.yN len W (fun P a => a = #[.ref x, .ref b] ∧ P.U.heap = h ∧ P.cells + 1 ≤ R.cells ∧ P.slots + cs.length ≤ R.slots)
      (fun P _ v B => ∃ L, QA Z x zn cs h v B.U.heap L ∧ B.locs = P.locs ++ L ∧ B.cells = P.cells + 1 ∧ B.slots = P.slots + cs.length) := by
  obtain ⟨A, K1, K2, K3, K4, K5, K6⟩ := K
  have e : A.slots.size = cs.length := K3.trans hlen
  have hat : ∀ (i : Nat) (hi : i < cs.length), A.slots[i]? = some (.int cs[i]) := fun i hi => by rw [K5 i (by omega)]; simp [List.getD_eq_getElem?_getD, hi]
  have hcv : ∀ (i : Nat) (hi : i < cs.length), cv A i = cs[i] := fun i hi => by unfold cv; rw [hat i hi]
  have hty : Typed .char A := fun i v hv => by
    have hi : i < A.slots.size := (Array.getElem?_eq_some_iff.mp hv).1
    have q := K5 i hi
    rw [hv] at q
    rw [Option.some.inj q]
    exact K6 i hi
  refine Back.mono (back hZ hw wi E V C K1 hty S hz (by omega) (by omega) (fun i hi => by rw [hcv i (by omega)]; exact hall _ (List.getElem_mem _)) hfr hlo) (fun P a hp => ⟨hp.1, hp.2.1, hp.2.2.1, by rw [e]; exact hp.2.2.2⟩) (fun P a v B hp hq => ?_)
  obtain ⟨L, ⟨q1, q2, q3, q4, q5, q6, q7, ⟨V', v1, v2, v3, v4, v5⟩, q9⟩, hl, hc, hs⟩ := hq
  refine ⟨L, ⟨q1, q2, q3, q4, q5, q6, q7, ⟨V'.cls, v3, V', v1, rfl, by rw [v4, e, hlen], K4, fun i hi => ?_, fun i hi => ?_⟩, q9⟩, hl, hc, by rw [hs, e]⟩
  · have hi' : i < cs.length := by omega
    rw [v5 i (by omega), hcv i hi']; simp [List.getD_eq_getElem?_getD, hi']
  · have hi' : i < cs.length := by omega
    simp only [List.getD_eq_getElem?_getD, List.getElem?_map, List.getElem?_eq_getElem hi', Option.map_some, Option.getD_some]
    exact fits_lo8 _
end StrChars.Road
namespace StrChars.Road
open Jvm Sem ClassFile Op Lib Jvm.Stand Jvm.Free Jvm.Free.XT
/-- WHAT COMES BACK, in the writer's own shape -/
def QV (Z : State) (x : Addr) (N : Int32) (bs : List Int32) (h : Heap) (n0 : Nat) (v : Option Value) (h' : Heap) (L : List Loc) : Prop := v = none ∧ RoadKit.Fr n0 L ∧ RoadKit.Keep h h' [x] ∧ RoadKit.Exa Z h' x ST ∧ RoadKit.Fld Z h' x ST "coder" "B" (.int 0) ∧
  ∃ (t : Addr) (kb : ClassId), n0 ≤ t ∧ h.size ≤ t ∧ ¬ t = x ∧ RoadKit.Fld Z h' x ST "value" "[B" (.ref t) ∧ RoadKit.Arv Z h' t kb .byte N (bs.map Value.int) (.int 0)
/-- **new String(chars) AT A CALL, FOR THE WRITER**: a char[] of n known ints, each 0 to 255 -/
theorem backV {p : Program} {l : Launch} {e : Env} {R : Room} {s : State} {args : Array Value} {below : List Frame} {len W : Nat} {Z : State} {a0 : Array Value} {h : Heap} (hZ : Z.Warmed39 s.vm) (hw : ∀ d ∈ words, d.before a0 Z = true) {kI : Nat} (wi : (Jvm.Cond.instantiable ST kI).before a0 Z = true)
    {x b : Addr} {kC : ClassId} {cs bs : List Int32} {d v0 c0 : Value} {z N : Int32} {n n0 : Nat} (hx0 : n0 ≤ x) (hh0 : n0 ≤ h.size) (E : RoadKit.Exa Z h x ST) (V : RoadKit.Fld Z h x ST "value" "[B" v0) (C : RoadKit.Fld Z h x ST "coder" "B" c0) (K : RoadKit.Arv Z h b kC .char N (cs.map Value.int) d) (S : RoadKit.Sta Z h ST "COMPACT_STRINGS" "Z" (.int z)) (hz : ¬ z = 0)
    (hn : cs.length = n) (hN : N = Int32.ofNat n) (l0 : 0 < n) (l2 : n ≤ 4000) (hp : ∀ c ∈ cs, ¬ c < 0 ∧ ¬ (255 : Int32) < c) (hb : bs = cs.map (fun c => c.toInt8.toInt32)) (hfr : 4 ≤ R.frames) (hlo : W + 65 ≤ R.locals) :
    Back l R p e below s args (⟨"java/lang/String", "<init>", "([C)V"⟩ : MethodName) len W (fun P a => a = #[.ref x, .ref b] ∧ P.U.heap = h ∧ P.cells + 1 ≤ R.cells ∧ P.slots + n ≤ R.slots)
      (fun P _ v B => ∃ L, QV Z x N bs h n0 v B.U.heap L ∧ B.locs = P.locs ++ L ∧ B.cells = P.cells + 1 ∧ B.slots = P.slots + n) := by
  subst hn hN hb
  refine Back.mono (backArv hZ hw wi E V C K S hz (n32 (by omega)) l0 (by omega) (fun c hc => (hp c hc).2) hfr hlo) (fun P a hp => hp) (fun P a v B hp hq => ?_)
  obtain ⟨L, ⟨q1, q2, q3, q4, q5, q6, q7, ⟨kb, v1, v2⟩, q9⟩, hl, hc, hs⟩ := hq
  exact ⟨L, ⟨q1, fun y hy => by rw [q2 y hy]; exact hx0, q3, q5, q7, h.size, kb, hh0, Nat.le_refl _, Nat.ne_of_gt E.lt, q6, by rw [List.map_map]; exact v2⟩, hl, hc, hs⟩
end StrChars.Road
namespace StrChars
open Jvm Sem ClassFile Op Lib Jvm.Stand Jvm.Free.XT Jvm.Free.ALB Jvm.Free.JM Jvm.Free
open Jvm.Lib.Cold (StaticIs)
def hi8 (x : Int32) : Int32 := lo8 (x >>> ((8 : Int32) &&& 31))
end StrChars
namespace StrChars.Road
open Jvm Sem ClassFile Op Lib Jvm.Stand Jvm.Free Jvm.Free.XT
open Jvm.Lib.Cold (StaticIs)
/-- the bytes of the chars cs, low before high -/
def wideBytes : List Int32 → List Value
  | [] => []
  | c :: cs => .int (lo8 c) :: .int (hi8 c) :: wideBytes cs
/-- an array of N2 bytes vs codes the chars cs by the coder cd -/
def CodA (cs : List Int32) (cd N2 : Int32) (vs : List Value) : Prop := (cd = 0 ∧ N2 = Int32.ofNat cs.length ∧ vs = (cs.map fun c => Value.int (lo8 c)) ∧ ∀ c ∈ cs, ¬ 255 < c) ∨ (cd = 1 ∧ N2 = Int32.ofNat (2 * cs.length) ∧ vs = wideBytes cs ∧ ∃ c ∈ cs, 255 < c)
end StrChars.Road
namespace StrChars.Road
open Jvm Sem ClassFile Op Lib Jvm.Stand Jvm.Free Jvm.Free.XT
open Jvm.Lib.Cold (StaticIs)
/-- what backV says of its String, as the contracts of this text ask it: cs's low bytes, coder 0 -/
theorem codOf {cs : List Int32} {n : Nat} (hn : cs.length = n) (hb : ∀ c ∈ cs, ¬ 255 < c) : CodA cs 0 (Int32.ofNat n) ((cs.map lo8).map Value.int) := Or.inl ⟨rfl, by rw [hn], by simp [List.map_map, Function.comp_def], hb⟩
end StrChars.Road
end Jvm.Pilot.@@N@@
namespace Jvm.Pilot.@@N@@.Y
open Jvm Jvm.ClassFile Sem Op Lib Jvm.Free Jvm.Stand Jvm.LawKit Jvm.RoadKit Bundle
/-- from st the run comes to an end that G tells -/
def Ends (p : Program) (e : Env) (below : List Frame) (G : Outcome → State → Prop) (st : State) : Prop := ∃ s₂ o, Steps p.tables e below st s₂ ∧ s₂.status = .running ∧ Ended s₂ below o ∧ G o s₂
theorem Ends.go {p : Program} {e : Env} {below : List Frame} {G : Outcome → State → Prop} {A B : State} (k : ∀ t, Steps p.tables e below B t → Steps p.tables e below A t) (h : Ends p e below G B) : Ends p e below G A := by
  obtain ⟨s₂, o, h1, h2⟩ := h
  exact ⟨s₂, o, k _ h1, h2⟩
theorem leB {a b : Nat} (h : Nat.ble a b = true) : a ≤ b := Nat.le_of_ble_eq_true h
theorem catR {v : Value} (h : v.isRef = true) : v.category = 1 := by rcases ref_cases h with rfl | ⟨z, rfl⟩ <;> rfl
theorem narR {v : Value} {C : String} (h : v.isRef = true) : narrow (.object C) v = v := by rcases ref_cases h with rfl | ⟨z, rfl⟩ <;> rfl
theorem fitR {v : Value} {C : String} (h : v.isRef = true) : fits (.object C) v = true := by rcases ref_cases h with rfl | ⟨z, rfl⟩ <;> rfl
theorem b01 {q : Int32} (h : q = 0 ∨ q = 1) : narrow .boolean (.int q) = .int q ∧ fits .boolean (.int q) = true := by rcases h with rfl | rfl <;> exact ⟨rfl, rfl⟩
theorem or01 {q : Int32} {c : Prop} (h : (q = 0 ∧ c) ∨ (q = 1 ∧ ¬ c)) : q = 0 ∨ q = 1 := h.imp (·.1) (·.1)
theorem or10 {q : Int32} {c : Prop} (h : (q = 1 ∧ c) ∨ (q = 0 ∧ ¬ c)) : q = 0 ∨ q = 1 := (h.imp (·.1) (·.1)).symm
/-- where the walk stands: over the start s with the tables vm0; h the heap at hand; ws: the old places it may write -/
def Wk (co : Bool) (Z : State) (a0 : Array Value) (EL : List (String × Nat)) (own : String) (bytes : ByteArray) (maxL : Nat) (ret : Option FieldType) (nm : String) (ws : List Addr) (p : Program) (l : Launch) (e : Env) (R : Room) (s : State) (m : MethodId) (args : Array Value) (below : List Frame) (meth : Method) (c : Code) (vm0 : Vm) (T : State) (h : Heap) (locs : List Loc) (cells slots : Nat) : Prop :=
  Stand p l e R (s.setVm vm0) m args below meth c T locs cells slots ∧ T.heap = h ∧ (∃ k0, s.Since vm0 k0 ∧ k0 ≤ h.size) ∧ (co = false → vm0 = s.vm) ∧ Z.Warmed39 vm0 ∧ vm0.findClass own = some m.cls ∧ CHr Z EL s.vm s.heap vm0 h ∧ EW Z a0 EL ∧
  (p.tables.exec = Jvm.exec ∧ c.code = bytes ∧ c.maxLocals = maxL ∧ meth.sig.returnType = ret ∧ meth.name = nm ∧ meth.locks = false) ∧ Ext Z.heap h ∧ Fr Z.heap.size locs ∧ Keep s.heap h ws
section Walk
variable {co : Bool} {Z : State} {a0 : Array Value} {EL : List (String × Nat)} {own : String} {bytes : ByteArray} {maxL : Nat} {ret : Option FieldType} {nm : String} {ws : List Addr} {p : Program} {l : Launch} {e : Env} {R : Room} {s : State} {m : MethodId} {args : Array Value} {below : List Frame} {meth : Method} {c : Code} {vm0 : Vm} {T : State} {h : Heap} {locs : List Loc} {cells slots : Nat} {G : Outcome → State → Prop} {pc pc' : Nat} {ls ls' : Array Slot} {rest : List Value}
abbrev WkA (co : Bool) (Z : State) (a0 : Array Value) (EL : List (String × Nat)) (own : String) (bytes : ByteArray) (maxL : Nat) (ret : Option FieldType) (nm : String) (ws : List Addr) (p : Program) (l : Launch) (e : Env) (R : Room) (s : State) (m : MethodId) (args : Array Value) (below : List Frame) (meth : Method) (c : Code) (vm0 : Vm) (T : State) (h : Heap) (locs : List Loc) (cells slots : Nat) : Prop := Wk co Z a0 EL own bytes maxL ret nm ws p l e R s m args below meth c vm0 T h locs cells slots
theorem Wk.st (X : Wk co Z a0 EL own bytes maxL ret nm ws p l e R s m args below meth c vm0 T h locs cells slots) : Stand p l e R (s.setVm vm0) m args below meth c T locs cells slots := X.1
theorem Wk.eT (X : Wk co Z a0 EL own bytes maxL ret nm ws p l e R s m args below meth c vm0 T h locs cells slots) : T.heap = h := X.2.1
theorem Wk.hx (X : Wk co Z a0 EL own bytes maxL ret nm ws p l e R s m args below meth c vm0 T h locs cells slots) : p.tables.exec = Jvm.exec := X.2.2.2.2.2.2.2.2.1.1
theorem Wk.hd (X : Wk co Z a0 EL own bytes maxL ret nm ws p l e R s m args below meth c vm0 T h locs cells slots) {r : Except DecodeError (Instr × Nat)} (d : decode bytes pc = r) : decode c.code pc = r := by
  rw [X.2.2.2.2.2.2.2.2.1.2.1]; exact d
theorem Wk.hml (X : Wk co Z a0 EL own bytes maxL ret nm ws p l e R s m args below meth c vm0 T h locs cells slots) : c.maxLocals = maxL := X.2.2.2.2.2.2.2.2.1.2.2.1
theorem Wk.hret (X : Wk co Z a0 EL own bytes maxL ret nm ws p l e R s m args below meth c vm0 T h locs cells slots) : meth.sig.returnType = ret := X.2.2.2.2.2.2.2.2.1.2.2.2.1
theorem Wk.hnm (X : Wk co Z a0 EL own bytes maxL ret nm ws p l e R s m args below meth c vm0 T h locs cells slots) : meth.name = nm := X.2.2.2.2.2.2.2.2.1.2.2.2.2.1
theorem Wk.hlk (X : Wk co Z a0 EL own bytes maxL ret nm ws p l e R s m args below meth c vm0 T h locs cells slots) : meth.locks = false := X.2.2.2.2.2.2.2.2.1.2.2.2.2.2
theorem Wk.hZ (X : Wk co Z a0 EL own bytes maxL ret nm ws p l e R s m args below meth c vm0 T h locs cells slots) : Z.Warmed39 (s.setVm vm0).vm := X.2.2.2.2.1
theorem Wk.al (X : Wk co Z a0 EL own bytes maxL ret nm ws p l e R s m args below meth c vm0 T h locs cells slots) : Z.vm.Alike vm0 := X.2.2.2.2.1.alike
theorem Wk.hown (X : Wk co Z a0 EL own bytes maxL ret nm ws p l e R s m args below meth c vm0 T h locs cells slots) : (s.setVm vm0).vm.findClass own = some m.cls := X.2.2.2.2.2.1
theorem Wk.ch (X : Wk co Z a0 EL own bytes maxL ret nm ws p l e R s m args below meth c vm0 T h locs cells slots) : CHr Z EL s.vm s.heap vm0 h := X.2.2.2.2.2.2.1
theorem Wk.H (X : Wk co Z a0 EL own bytes maxL ret nm ws p l e R s m args below meth c vm0 T h locs cells slots) : CHv Z EL vm0 h := X.ch.1
theorem Wk.ew (X : Wk co Z a0 EL own bytes maxL ret nm ws p l e R s m args below meth c vm0 T h locs cells slots) : EW Z a0 EL := X.2.2.2.2.2.2.2.1
theorem Wk.old (X : Wk co Z a0 EL own bytes maxL ret nm ws p l e R s m args below meth c vm0 T h locs cells slots) : Ext Z.heap h := X.2.2.2.2.2.2.2.2.2.1
theorem Wk.fr (X : Wk co Z a0 EL own bytes maxL ret nm ws p l e R s m args below meth c vm0 T h locs cells slots) : Fr Z.heap.size locs := X.2.2.2.2.2.2.2.2.2.2.1
theorem Wk.kp (X : Wk co Z a0 EL own bytes maxL ret nm ws p l e R s m args below meth c vm0 T h locs cells slots) : Keep s.heap h ws := X.2.2.2.2.2.2.2.2.2.2.2
theorem Wk.since (X : Wk co Z a0 EL own bytes maxL ret nm ws p l e R s m args below meth c vm0 T h locs cells slots) : ∃ k0, s.Since vm0 k0 ∧ k0 ≤ h.size := X.2.2.1
theorem Wk.nr (X : Wk co Z a0 EL own bytes maxL ret nm ws p l e R s m args below meth c vm0 T h locs cells slots) : co = false → vm0 = s.vm := X.2.2.2.1
/-- a step that leaves the heap -/
theorem Wk.same (X : Wk co Z a0 EL own bytes maxL ret nm ws p l e R s m args below meth c vm0 T h locs cells slots) {T' : State} (Y : Stand p l e R (s.setVm vm0) m args below meth c T' locs cells slots) (e' : T'.heap = h) : Wk co Z a0 EL own bytes maxL ret nm ws p l e R s m args below meth c vm0 T' h locs cells slots :=
  ⟨Y, e', X.2.2⟩
theorem fr_app0 {k : Nat} {L : List Loc} (N : Fr k L) : Fr k (L ++ []) := by rw [List.append_nil]; exact N
/-- a step that makes new cells -/
theorem Wk.ext (X : Wk co Z a0 EL own bytes maxL ret nm ws p l e R s m args below meth c vm0 T h locs cells slots) {T' : State} {h' : Heap} {cells' slots' : Nat} (Y : Stand p l e R (s.setVm vm0) m args below meth c T' locs cells' slots') (e' : T'.heap = h') (E : Ext h h') : Wk co Z a0 EL own bytes maxL ret nm ws p l e R s m args below meth c vm0 T' h' locs cells' slots' := by
  obtain ⟨k0, k1, k2⟩ := X.since
  exact ⟨Y, e', ⟨k0, k1, Nat.le_trans k2 E.1⟩, X.nr, X.hZ, X.hown, X.ch.trans (CHr.ext E X.H), X.ew, X.2.2.2.2.2.2.2.2.1, ⟨Nat.le_trans X.old.1 E.1, fun a cl q => E.2 _ _ (X.old.2 _ _ q)⟩, X.fr, X.kp.ext E⟩
/-- a narrow call: L written, of old cells those at wc alone -/
theorem Wk.keep (X : Wk co Z a0 EL own bytes maxL ret nm ws p l e R s m args below meth c vm0 T h locs cells slots) {T' : State} {h' : Heap} {L : List Loc} {wc : List Addr} {cells' slots' : Nat} (Y : Stand p l e R (s.setVm vm0) m args below meth c T' (locs ++ L) cells' slots') (e' : T'.heap = h') (K : Keep h h' wc) (S : ∀ x ∈ wc, Safe Z EL vm0 h x) (N : Fr Z.heap.size L) (hn : ∀ x ∈ wc, Z.heap.size ≤ x) (hk : ∀ x ∈ wc, x ∈ ws ∨ s.heap.size ≤ x) : Wk co Z a0 EL own bytes maxL ret nm ws p l e R s m args below meth c vm0 T' h' (locs ++ L) cells' slots' := by
  obtain ⟨k0, k1, k2⟩ := X.since
  have O : Old Z Z.heap.size h' := Old.keep ⟨rfl, X.old⟩ K hn
  exact ⟨Y, e', ⟨k0, k1, Nat.le_trans k2 K.1⟩, X.nr, X.hZ, X.hown, X.ch.trans (CHr.keep K S X.H), X.ew, X.2.2.2.2.2.2.2.2.1, O.2, X.fr.app N, X.kp.trans K hk⟩
/-- one place of a new object written -/
theorem Wk.wr (X : Wk co Z a0 EL own bytes maxL ret nm ws p l e R s m args below meth c vm0 T h locs cells slots) {T' : State} {h' : Heap} {a : Addr} {sl : Nat} {v : Value} (Y : Stand p l e R (s.setVm vm0) m args below meth c T' (locs ++ [⟨a, sl⟩]) cells slots) (e' : T'.heap = h') (W : Wr h h' a sl v) (S : Safe Z EL vm0 h a) (hn : Z.heap.size ≤ a) (hk : a ∈ ws ∨ s.heap.size ≤ a) : Wk co Z a0 EL own bytes maxL ret nm ws p l e R s m args below meth c vm0 T' h' (locs ++ [⟨a, sl⟩]) cells slots :=
  X.keep Y e' (Keep.of_wr W) (sfS S sf0) (fun y hy => by cases List.mem_singleton.mp hy; exact hn) (allS hn all0) (allS hk all0)
/-- a callee that may intern -/
theorem Wk.cold (X : Wk true Z a0 EL own bytes maxL ret nm ws p l e R s m args below meth c vm0 T h locs cells slots) {T' : State} {L : List Loc} {wc : List Addr} {cells' slots' : Nat} (Y : Stand p l e R ((s.setVm vm0).setVm T'.vm) m args below meth c T' (locs ++ L) cells' slots') (hS : (s.setVm vm0).Since T'.vm T'.heap.size) (hC : CHr Z EL vm0 h T'.vm T'.heap) (K : Keep h T'.heap wc) (N : Fr Z.heap.size L) (O : Ext Z.heap T'.heap) (hk : ∀ x ∈ wc, x ∈ ws ∨ s.heap.size ≤ x) : Wk true Z a0 EL own bytes maxL ret nm ws p l e R s m args below meth c T'.vm T' T'.heap (locs ++ L) cells' slots' := by
  obtain ⟨k0, k1, k2⟩ := X.since
  exact ⟨Y, rfl, ⟨_, k1.trans hS (Nat.le_trans k2 K.1), Nat.le_refl _⟩, fun q => (by cases q), State.Warmed39.trans X.hZ hS.1, (by rw [hS.1.alike.findClass]; exact X.hown), X.ch.trans hC, X.ew, X.2.2.2.2.2.2.2.2.1, O, X.fr.app N, X.kp.trans K hk⟩
theorem safeE {vm : Vm} {x : Addr} : Safe Z [] vm h x := fun B => by obtain ⟨q, hq, -⟩ := B; cases hq
theorem chrE {vm vm' : Vm} {h' : Heap} (q : h.size ≤ h'.size) : CHr Z [] vm h vm' h' := ⟨(fun _ hq => by cases hq), q, fun y B => absurd B safeE⟩
/-- a String whose value is still null is no booked one -/
theorem Safe.blank {vm : Vm} {x : Addr} (hal : Z.vm.Alike vm) (E : Exa Z h x "java/lang/String") {k : Nat} (wi : (Cond.instantiable "java/lang/String" k).before a0 Z = true) (F : Fld Z h x "java/lang/String" "value" "[B" .null) : Safe Z EL vm h x := fun B => by
  obtain ⟨pr, -, u, a, -, q, hq, SB, hy⟩ := B
  have hd := SB.hd
  have ha := SB.ha
  rcases hy with rfl | rfl
  · obtain ⟨cS, ⟨⟨-, -, -, ⟨cv, kv, iv, s4, -⟩, -, -, -, v1, -⟩, -⟩, -⟩ := SB
    obtain ⟨cell, cf, k2, i, f, h1, h2, -, -, -, -, h7⟩ := F
    cases (show h[q.sa]? = some q.sC from ha).symm.trans h1
    obtain ⟨k3, e3, -⟩ := State.fieldFound?_setVm (s := ({ Z with heap := h } : State)) (vm' := vm) hal h2
    have e4 := (show (Wst Z vm h).fieldFound? _ _ _ = _ from e3).symm.trans s4
    simp only [Option.some.injEq, Prod.mk.injEq] at e4
    rw [← e4.2.2.2, h7] at v1
    cases v1
  · obtain ⟨cS, ⟨⟨-, -, -, -, -, -, -, -, -, -, ⟨-, kB, hkB, compB, hkindB⟩, -⟩, -, -⟩, -⟩ := SB
    obtain ⟨cell, kE, e1, e2, e3, -, -⟩ := E
    cases (show h[q.sd]? = some q.SA from hd).symm.trans e1
    obtain ⟨c2, k2, i1, i2, i3, -⟩ := Cond.instantiable_spec wi
    cases e2.symm.trans i1
    obtain ⟨kE', hk', ek⟩ := hal.2.2 _ _ i2
    cases (show vm.classes[q.SA.cls]? = some kB from hkB).symm.trans hk'
    rw [ek, i3] at hkindB
    cases hkindB
theorem Wk.iadd (X : Wk co Z a0 EL own bytes maxL ret nm ws p l e R s m args below meth c vm0 T h locs cells slots) {x y : Int32} (hd : decode bytes pc = .ok (.iadd, 1))  (hp : pc + 1 = pc') (k : Ends p e below G (T.setTop (mkF m pc' ls (.int (x + y) :: rest)))) : Ends p e below G (T.setTop (mkF m pc ls (.int y :: .int x :: rest))) := by
  subst hp; exact Ends.go (fun _ q => XS.iadd X.st.here X.hx rfl (X.hd hd) rfl q) k
theorem Wk.isub (X : Wk co Z a0 EL own bytes maxL ret nm ws p l e R s m args below meth c vm0 T h locs cells slots) {x y : Int32} (hd : decode bytes pc = .ok (.isub, 1))  (hp : pc + 1 = pc') (k : Ends p e below G (T.setTop (mkF m pc' ls (.int (x - y) :: rest)))) : Ends p e below G (T.setTop (mkF m pc ls (.int y :: .int x :: rest))) := by
  subst hp; exact Ends.go (fun _ q => XS.isub X.st.here X.hx rfl (X.hd hd) rfl q) k
theorem Wk.imul (X : Wk co Z a0 EL own bytes maxL ret nm ws p l e R s m args below meth c vm0 T h locs cells slots) {x y : Int32} (hd : decode bytes pc = .ok (.imul, 1))  (hp : pc + 1 = pc') (k : Ends p e below G (T.setTop (mkF m pc' ls (.int (x * y) :: rest)))) : Ends p e below G (T.setTop (mkF m pc ls (.int y :: .int x :: rest))) := by
  subst hp; exact Ends.go (fun _ q => XS.imul X.st.here X.hx rfl (X.hd hd) rfl q) k
theorem Wk.iand (X : Wk co Z a0 EL own bytes maxL ret nm ws p l e R s m args below meth c vm0 T h locs cells slots) {x y : Int32} (hd : decode bytes pc = .ok (.iand, 1))  (hp : pc + 1 = pc') (k : Ends p e below G (T.setTop (mkF m pc' ls (.int (x &&& y) :: rest)))) : Ends p e below G (T.setTop (mkF m pc ls (.int y :: .int x :: rest))) := by
  subst hp; exact Ends.go (fun _ q => XS.iand X.st.here X.hx rfl (X.hd hd) rfl q) k
theorem Wk.ior (X : Wk co Z a0 EL own bytes maxL ret nm ws p l e R s m args below meth c vm0 T h locs cells slots) {x y : Int32} (hd : decode bytes pc = .ok (.ior, 1))  (hp : pc + 1 = pc') (k : Ends p e below G (T.setTop (mkF m pc' ls (.int (x ||| y) :: rest)))) : Ends p e below G (T.setTop (mkF m pc ls (.int y :: .int x :: rest))) := by
  subst hp; exact Ends.go (fun _ q => XS.ior X.st.here X.hx rfl (X.hd hd) rfl q) k
theorem Wk.ixor (X : Wk co Z a0 EL own bytes maxL ret nm ws p l e R s m args below meth c vm0 T h locs cells slots) {x y : Int32} (hd : decode bytes pc = .ok (.ixor, 1))  (hp : pc + 1 = pc') (k : Ends p e below G (T.setTop (mkF m pc' ls (.int (x ^^^ y) :: rest)))) : Ends p e below G (T.setTop (mkF m pc ls (.int y :: .int x :: rest))) := by
  subst hp; exact Ends.go (fun _ q => XS.ixor X.st.here X.hx rfl (X.hd hd) rfl q) k
theorem Wk.ishl (X : Wk co Z a0 EL own bytes maxL ret nm ws p l e R s m args below meth c vm0 T h locs cells slots) {x y : Int32} (hd : decode bytes pc = .ok (.ishl, 1))  (hp : pc + 1 = pc') (k : Ends p e below G (T.setTop (mkF m pc' ls (.int (x <<< (y &&& 31)) :: rest)))) : Ends p e below G (T.setTop (mkF m pc ls (.int y :: .int x :: rest))) := by
  subst hp; exact Ends.go (fun _ q => XS.ishl X.st.here X.hx rfl (X.hd hd) rfl q) k
theorem Wk.ishr (X : Wk co Z a0 EL own bytes maxL ret nm ws p l e R s m args below meth c vm0 T h locs cells slots) {x y : Int32} (hd : decode bytes pc = .ok (.ishr, 1))  (hp : pc + 1 = pc') (k : Ends p e below G (T.setTop (mkF m pc' ls (.int (x >>> (y &&& 31)) :: rest)))) : Ends p e below G (T.setTop (mkF m pc ls (.int y :: .int x :: rest))) := by
  subst hp; exact Ends.go (fun _ q => XS.ishr X.st.here X.hx rfl (X.hd hd) rfl q) k
theorem Wk.iushr (X : Wk co Z a0 EL own bytes maxL ret nm ws p l e R s m args below meth c vm0 T h locs cells slots) {x y : Int32} (hd : decode bytes pc = .ok (.iushr, 1))  (hp : pc + 1 = pc') (k : Ends p e below G (T.setTop (mkF m pc' ls (.int ((x.toUInt32 >>> (y &&& 31).toUInt32).toInt32) :: rest)))) : Ends p e below G (T.setTop (mkF m pc ls (.int y :: .int x :: rest))) := by
  subst hp; exact Ends.go (fun _ q => XS.iushr X.st.here X.hx rfl (X.hd hd) rfl q) k
theorem Wk.ladd (X : Wk co Z a0 EL own bytes maxL ret nm ws p l e R s m args below meth c vm0 T h locs cells slots) {x y : Int64} (hd : decode bytes pc = .ok (.ladd, 1))  (hp : pc + 1 = pc') (k : Ends p e below G (T.setTop (mkF m pc' ls (.long (x + y) :: rest)))) : Ends p e below G (T.setTop (mkF m pc ls (.long y :: .long x :: rest))) := by
  subst hp; exact Ends.go (fun _ q => XS.ladd X.st.here X.hx rfl (X.hd hd) rfl q) k
theorem Wk.lsub (X : Wk co Z a0 EL own bytes maxL ret nm ws p l e R s m args below meth c vm0 T h locs cells slots) {x y : Int64} (hd : decode bytes pc = .ok (.lsub, 1))  (hp : pc + 1 = pc') (k : Ends p e below G (T.setTop (mkF m pc' ls (.long (x - y) :: rest)))) : Ends p e below G (T.setTop (mkF m pc ls (.long y :: .long x :: rest))) := by
  subst hp; exact Ends.go (fun _ q => XS.lsub X.st.here X.hx rfl (X.hd hd) rfl q) k
theorem Wk.land (X : Wk co Z a0 EL own bytes maxL ret nm ws p l e R s m args below meth c vm0 T h locs cells slots) {x y : Int64} (hd : decode bytes pc = .ok (.land, 1))  (hp : pc + 1 = pc') (k : Ends p e below G (T.setTop (mkF m pc' ls (.long (x &&& y) :: rest)))) : Ends p e below G (T.setTop (mkF m pc ls (.long y :: .long x :: rest))) := by
  subst hp; exact Ends.go (fun _ q => XS.land X.st.here X.hx rfl (X.hd hd) rfl q) k
theorem Wk.lxor (X : Wk co Z a0 EL own bytes maxL ret nm ws p l e R s m args below meth c vm0 T h locs cells slots) {x y : Int64} (hd : decode bytes pc = .ok (.lxor, 1))  (hp : pc + 1 = pc') (k : Ends p e below G (T.setTop (mkF m pc' ls (.long (x ^^^ y) :: rest)))) : Ends p e below G (T.setTop (mkF m pc ls (.long y :: .long x :: rest))) := by
  subst hp; exact Ends.go (fun _ q => XS.lxor X.st.here X.hx rfl (X.hd hd) rfl q) k
theorem Wk.lor (X : Wk co Z a0 EL own bytes maxL ret nm ws p l e R s m args below meth c vm0 T h locs cells slots) {x y : Int64} (hd : decode bytes pc = .ok (.lor, 1))  (hp : pc + 1 = pc') (k : Ends p e below G (T.setTop (mkF m pc' ls (.long (x ||| y) :: rest)))) : Ends p e below G (T.setTop (mkF m pc ls (.long y :: .long x :: rest))) := by
  subst hp; exact Ends.go (fun _ q => XS.lor X.st.here X.hx rfl (X.hd hd) rfl q) k
theorem Wk.lushr (X : Wk co Z a0 EL own bytes maxL ret nm ws p l e R s m args below meth c vm0 T h locs cells slots) {x : Int64} {y : Int32} (hd : decode bytes pc = .ok (.lushr, 1))  (hp : pc + 1 = pc') (k : Ends p e below G (T.setTop (mkF m pc' ls (.long (XT.ushrL x y) :: rest)))) : Ends p e below G (T.setTop (mkF m pc ls (.int y :: .long x :: rest))) := by
  subst hp; exact Ends.go (fun _ q => XT.lushr X.st.here X.hx rfl (X.hd hd) rfl q) k
theorem Wk.i2c (X : Wk co Z a0 EL own bytes maxL ret nm ws p l e R s m args below meth c vm0 T h locs cells slots) {x : Int32} (hd : decode bytes pc = .ok (.i2c, 1))  (hp : pc + 1 = pc') (k : Ends p e below G (T.setTop (mkF m pc' ls (.int (x.toUInt32.toUInt16.toUInt32.toInt32) :: rest)))) : Ends p e below G (T.setTop (mkF m pc ls (.int x :: rest))) := by
  subst hp; exact Ends.go (fun _ q => XS.i2c X.st.here X.hx rfl (X.hd hd) rfl q) k
theorem Wk.i2b (X : Wk co Z a0 EL own bytes maxL ret nm ws p l e R s m args below meth c vm0 T h locs cells slots) {x : Int32} (hd : decode bytes pc = .ok (.i2b, 1))  (hp : pc + 1 = pc') (k : Ends p e below G (T.setTop (mkF m pc' ls (.int (x.toInt8.toInt32) :: rest)))) : Ends p e below G (T.setTop (mkF m pc ls (.int x :: rest))) := by
  subst hp; exact Ends.go (fun _ q => XS.i2b X.st.here X.hx rfl (X.hd hd) rfl q) k
theorem Wk.i2l (X : Wk co Z a0 EL own bytes maxL ret nm ws p l e R s m args below meth c vm0 T h locs cells slots) {x : Int32} (hd : decode bytes pc = .ok (.i2l, 1))  (hp : pc + 1 = pc') (k : Ends p e below G (T.setTop (mkF m pc' ls (.long (x.toInt64) :: rest)))) : Ends p e below G (T.setTop (mkF m pc ls (.int x :: rest))) := by
  subst hp; exact Ends.go (fun _ q => XS.i2l X.st.here X.hx rfl (X.hd hd) rfl q) k
theorem Wk.l2i (X : Wk co Z a0 EL own bytes maxL ret nm ws p l e R s m args below meth c vm0 T h locs cells slots) {x : Int64} (hd : decode bytes pc = .ok (.l2i, 1))  (hp : pc + 1 = pc') (k : Ends p e below G (T.setTop (mkF m pc' ls (.int (x.toInt32) :: rest)))) : Ends p e below G (T.setTop (mkF m pc ls (.long x :: rest))) := by
  subst hp; exact Ends.go (fun _ q => XS.l2i X.st.here X.hx rfl (X.hd hd) rfl q) k
theorem Wk.ineg (X : Wk co Z a0 EL own bytes maxL ret nm ws p l e R s m args below meth c vm0 T h locs cells slots) {x : Int32} (hd : decode bytes pc = .ok (.ineg, 1))  (hp : pc + 1 = pc') (k : Ends p e below G (T.setTop (mkF m pc' ls (.int (-x) :: rest)))) : Ends p e below G (T.setTop (mkF m pc ls (.int x :: rest))) := by
  subst hp; exact Ends.go (fun _ q => XS.ineg X.st.here X.hx rfl (X.hd hd) rfl q) k
theorem Wk.iconst (X : Wk co Z a0 EL own bytes maxL ret nm ws p l e R s m args below meth c vm0 T h locs cells slots) {i : Int} (v : Int32) (hd : decode bytes pc = .ok (.iconst i, 1)) (hv : Int32.ofInt i = v) (hp : pc + 1 = pc') (k : Ends p e below G (T.setTop (mkF m pc' ls (.int v :: rest)))) : Ends p e below G (T.setTop (mkF m pc ls rest)) := by
  subst hp; subst hv; exact Ends.go (fun _ q => XS.iconst X.st.here X.hx rfl (X.hd hd)  q) k
theorem Wk.bipush (X : Wk co Z a0 EL own bytes maxL ret nm ws p l e R s m args below meth c vm0 T h locs cells slots) {i : Int} (v : Int32) (hd : decode bytes pc = .ok (.bipush i, 2)) (hv : (Int8.ofInt i).toInt32 = v) (hp : pc + 2 = pc') (k : Ends p e below G (T.setTop (mkF m pc' ls (.int v :: rest)))) : Ends p e below G (T.setTop (mkF m pc ls rest)) := by
  subst hp; subst hv; exact Ends.go (fun _ q => XS.bipush X.st.here X.hx rfl (X.hd hd)  q) k
theorem Wk.sipush (X : Wk co Z a0 EL own bytes maxL ret nm ws p l e R s m args below meth c vm0 T h locs cells slots) {i : Int} (v : Int32) (hd : decode bytes pc = .ok (.sipush i, 3)) (hv : (Int16.ofInt i).toInt32 = v) (hp : pc + 3 = pc') (k : Ends p e below G (T.setTop (mkF m pc' ls (.int v :: rest)))) : Ends p e below G (T.setTop (mkF m pc ls rest)) := by
  subst hp; subst hv; exact Ends.go (fun _ q => XS.sipush X.st.here X.hx rfl (X.hd hd)  q) k
theorem Wk.aconstNull (X : Wk co Z a0 EL own bytes maxL ret nm ws p l e R s m args below meth c vm0 T h locs cells slots)  (hd : decode bytes pc = .ok (.aconst_null, 1))  (hp : pc + 1 = pc') (k : Ends p e below G (T.setTop (mkF m pc' ls (.null :: rest)))) : Ends p e below G (T.setTop (mkF m pc ls rest)) := by
  subst hp; exact Ends.go (fun _ q => XS.aconstNull X.st.here X.hx rfl (X.hd hd)  q) k
theorem Wk.aloadN (X : Wk co Z a0 EL own bytes maxL ret nm ws p l e R s m args below meth c vm0 T h locs cells slots) {k : Fin 4} {v : Value} (hd : decode bytes pc = .ok (.aload_n k, 1)) (hl : ls[k.val]? = some (.val v)) (hv : v.isRef = true) (hp : pc + 1 = pc') (kk : Ends p e below G (T.setTop (mkF m pc' ls (v :: rest)))) : Ends p e below G (T.setTop (mkF m pc ls rest)) := by
  subst hp; exact Ends.go (fun _ q => XS.aloadN X.st.here X.hx rfl (X.hd hd) hl hv q) kk
theorem Wk.aload (X : Wk co Z a0 EL own bytes maxL ret nm ws p l e R s m args below meth c vm0 T h locs cells slots) {k : Nat} {v : Value} (hd : decode bytes pc = .ok (.aload k, 2)) (hl : ls[k]? = some (.val v)) (hv : v.isRef = true) (hp : pc + 2 = pc') (kk : Ends p e below G (T.setTop (mkF m pc' ls (v :: rest)))) : Ends p e below G (T.setTop (mkF m pc ls rest)) := by
  subst hp; exact Ends.go (fun _ q => XS.aload X.st.here X.hx rfl (X.hd hd) hl hv q) kk
theorem Wk.iloadN (X : Wk co Z a0 EL own bytes maxL ret nm ws p l e R s m args below meth c vm0 T h locs cells slots) {k : Fin 4} {v : Int32} (hd : decode bytes pc = .ok (.iload_n k, 1)) (hl : ls[k.val]? = some (.val (.int v))) (hp : pc + 1 = pc') (kk : Ends p e below G (T.setTop (mkF m pc' ls (.int v :: rest)))) : Ends p e below G (T.setTop (mkF m pc ls rest)) := by
  subst hp; exact Ends.go (fun _ q => XS.iloadN X.st.here X.hx rfl (X.hd hd) hl q) kk
theorem Wk.iload (X : Wk co Z a0 EL own bytes maxL ret nm ws p l e R s m args below meth c vm0 T h locs cells slots) {k : Nat} {v : Int32} (hd : decode bytes pc = .ok (.iload k, 2)) (hl : ls[k]? = some (.val (.int v))) (hp : pc + 2 = pc') (kk : Ends p e below G (T.setTop (mkF m pc' ls (.int v :: rest)))) : Ends p e below G (T.setTop (mkF m pc ls rest)) := by
  subst hp; exact Ends.go (fun _ q => XS.iload X.st.here X.hx rfl (X.hd hd) hl q) kk
theorem Wk.lloadN (X : Wk co Z a0 EL own bytes maxL ret nm ws p l e R s m args below meth c vm0 T h locs cells slots) {k : Fin 4} {v : Int64} (hd : decode bytes pc = .ok (.lload_n k, 1)) (hl : ls[k.val]? = some (.val (.long v))) (hp : pc + 1 = pc') (kk : Ends p e below G (T.setTop (mkF m pc' ls (.long v :: rest)))) : Ends p e below G (T.setTop (mkF m pc ls rest)) := by
  subst hp; exact Ends.go (fun _ q => XS.lloadN X.st.here X.hx rfl (X.hd hd) hl q) kk
theorem Wk.lload (X : Wk co Z a0 EL own bytes maxL ret nm ws p l e R s m args below meth c vm0 T h locs cells slots) {k : Nat} {v : Int64} (hd : decode bytes pc = .ok (.lload k, 2)) (hl : ls[k]? = some (.val (.long v))) (hp : pc + 2 = pc') (kk : Ends p e below G (T.setTop (mkF m pc' ls (.long v :: rest)))) : Ends p e below G (T.setTop (mkF m pc ls rest)) := by
  subst hp; exact Ends.go (fun _ q => XS.lload X.st.here X.hx rfl (X.hd hd) hl q) kk
theorem Wk.istoreN (X : Wk co Z a0 EL own bytes maxL ret nm ws p l e R s m args below meth c vm0 T h locs cells slots) {k : Fin 4} {x : Int32} (ls' : Array Slot) (hd : decode bytes pc = .ok (.istore_n k, 1)) (hl : storeLocals ls k.val (.int x) = some ls') (hp : pc + 1 = pc') (kk : Ends p e below G (T.setTop (mkF m pc' ls' rest))) : Ends p e below G (T.setTop (mkF m pc ls (.int x :: rest))) := by
  subst hp; exact Ends.go (fun _ q => XS.istoreN X.st.here X.hx rfl (X.hd hd) rfl hl q) kk
theorem Wk.istore (X : Wk co Z a0 EL own bytes maxL ret nm ws p l e R s m args below meth c vm0 T h locs cells slots) {k : Nat} {x : Int32} (ls' : Array Slot) (hd : decode bytes pc = .ok (.istore k, 2)) (hl : storeLocals ls k (.int x) = some ls') (hp : pc + 2 = pc') (kk : Ends p e below G (T.setTop (mkF m pc' ls' rest))) : Ends p e below G (T.setTop (mkF m pc ls (.int x :: rest))) := by
  subst hp; exact Ends.go (fun _ q => XS.istore X.st.here X.hx rfl (X.hd hd) rfl hl q) kk
theorem Wk.lstoreN (X : Wk co Z a0 EL own bytes maxL ret nm ws p l e R s m args below meth c vm0 T h locs cells slots) {k : Fin 4} {x : Int64} (ls' : Array Slot) (hd : decode bytes pc = .ok (.lstore_n k, 1)) (hl : storeLocals ls k.val (.long x) = some ls') (hp : pc + 1 = pc') (kk : Ends p e below G (T.setTop (mkF m pc' ls' rest))) : Ends p e below G (T.setTop (mkF m pc ls (.long x :: rest))) := by
  subst hp; exact Ends.go (fun _ q => XS.lstoreN X.st.here X.hx rfl (X.hd hd) rfl hl q) kk
theorem Wk.lstore (X : Wk co Z a0 EL own bytes maxL ret nm ws p l e R s m args below meth c vm0 T h locs cells slots) {k : Nat} {x : Int64} (ls' : Array Slot) (hd : decode bytes pc = .ok (.lstore k, 2)) (hl : storeLocals ls k (.long x) = some ls') (hp : pc + 2 = pc') (kk : Ends p e below G (T.setTop (mkF m pc' ls' rest))) : Ends p e below G (T.setTop (mkF m pc ls (.long x :: rest))) := by
  subst hp; exact Ends.go (fun _ q => XS.lstore X.st.here X.hx rfl (X.hd hd) rfl hl q) kk
theorem Wk.astoreN (X : Wk co Z a0 EL own bytes maxL ret nm ws p l e R s m args below meth c vm0 T h locs cells slots) {k : Fin 4} {x : Value} (ls' : Array Slot) (hd : decode bytes pc = .ok (.astore_n k, 1)) (hv : x.isRef = true) (hl : storeLocals ls k.val x = some ls') (hp : pc + 1 = pc') (kk : Ends p e below G (T.setTop (mkF m pc' ls' rest))) : Ends p e below G (T.setTop (mkF m pc ls (x :: rest))) := by
  subst hp; exact Ends.go (fun _ q => XS.astoreN X.st.here X.hx rfl (X.hd hd) rfl hv hl q) kk
theorem Wk.astore (X : Wk co Z a0 EL own bytes maxL ret nm ws p l e R s m args below meth c vm0 T h locs cells slots) {k : Nat} {x : Value} (ls' : Array Slot) (hd : decode bytes pc = .ok (.astore k, 2)) (hv : x.isRef = true) (hl : storeLocals ls k x = some ls') (hp : pc + 2 = pc') (kk : Ends p e below G (T.setTop (mkF m pc' ls' rest))) : Ends p e below G (T.setTop (mkF m pc ls (x :: rest))) := by
  subst hp; exact Ends.go (fun _ q => XS.astore X.st.here X.hx rfl (X.hd hd) rfl hv hl q) kk
theorem Wk.iinc (X : Wk co Z a0 EL own bytes maxL ret nm ws p l e R s m args below meth c vm0 T h locs cells slots) {k : Nat} {cst : Int} {x : Int32} (ls' : Array Slot) (hd : decode bytes pc = .ok (.iinc k cst, 3)) (hl : ls[k]? = some (.val (.int x))) (hl' : storeLocals ls k (.int (x + Int32.ofInt cst)) = some ls') (hp : pc + 3 = pc') (kk : Ends p e below G (T.setTop (mkF m pc' ls' rest))) : Ends p e below G (T.setTop (mkF m pc ls rest)) := by
  subst hp; exact Ends.go (fun _ q => XS.iinc X.st.here X.hx rfl (X.hd hd) hl hl' q) kk
theorem Wk.dup (X : Wk co Z a0 EL own bytes maxL ret nm ws p l e R s m args below meth c vm0 T h locs cells slots) {x : Value} (hd : decode bytes pc = .ok (.dup, 1)) (hc : x.category = 1) (hp : pc + 1 = pc') (k : Ends p e below G (T.setTop (mkF m pc' ls (x :: x :: rest)))) : Ends p e below G (T.setTop (mkF m pc ls (x :: rest))) := by
  subst hp; exact Ends.go (fun _ q => XS.dup X.st.here X.hx rfl (X.hd hd) rfl hc q) k
theorem Wk.pop (X : Wk co Z a0 EL own bytes maxL ret nm ws p l e R s m args below meth c vm0 T h locs cells slots) {x : Value} (hd : decode bytes pc = .ok (.pop, 1)) (hc : x.category = 1) (hp : pc + 1 = pc') (k : Ends p e below G (T.setTop (mkF m pc' ls rest))) : Ends p e below G (T.setTop (mkF m pc ls (x :: rest))) := by
  subst hp; exact Ends.go (fun _ q => XS.pop X.st.here X.hx rfl (X.hd hd) rfl hc q) k
theorem Wk.dupX1 (X : Wk co Z a0 EL own bytes maxL ret nm ws p l e R s m args below meth c vm0 T h locs cells slots) {x y : Value} (hd : decode bytes pc = .ok (.dup_x1, 1)) (hc : x.category = 1) (hc' : y.category = 1) (hp : pc + 1 = pc') (k : Ends p e below G (T.setTop (mkF m pc' ls (x :: y :: x :: rest)))) : Ends p e below G (T.setTop (mkF m pc ls (x :: y :: rest))) := by
  subst hp; exact Ends.go (fun _ q => XS.dupX1 X.st.here X.hx rfl (X.hd hd) rfl hc hc' q) k
theorem Wk.irem (X : Wk co Z a0 EL own bytes maxL ret nm ws p l e R s m args below meth c vm0 T h locs cells slots) {x y : Int32} (hd : decode bytes pc = .ok (.irem, 1)) (hy : y ≠ 0) (hp : pc + 1 = pc') (k : Ends p e below G (T.setTop (mkF m pc' ls (.int (x % y) :: rest)))) : Ends p e below G (T.setTop (mkF m pc ls (.int y :: .int x :: rest))) := by
  subst hp; exact Ends.go (fun _ q => iremM X.st X.hx rfl (X.hd hd) rfl hy q) k
theorem Wk.idiv (X : Wk co Z a0 EL own bytes maxL ret nm ws p l e R s m args below meth c vm0 T h locs cells slots) {x y : Int32} (hd : decode bytes pc = .ok (.idiv, 1)) (hy : y ≠ 0) (hp : pc + 1 = pc') (k : Ends p e below G (T.setTop (mkF m pc' ls (.int (x / y) :: rest)))) : Ends p e below G (T.setTop (mkF m pc ls (.int y :: .int x :: rest))) := by
  subst hp; exact Ends.go (fun _ q => XS.idiv X.st.here X.hx rfl (X.hd hd) rfl hy q) k
theorem Wk.goto (X : Wk co Z a0 EL own bytes maxL ret nm ws p l e R s m args below meth c vm0 T h locs cells slots)  {o : Int} (hd : decode bytes pc = .ok (.goto o, 3))  (ho : 0 ≤ (pc : Int) + o) (hp : ((pc : Int) + o).toNat = pc') (k : Ends p e below G (T.setTop (mkF m pc' ls rest))) : Ends p e below G (T.setTop (mkF m pc ls rest)) :=
  Ends.go (fun _ q => XS.goto X.st.here X.hx rfl (pc0 := pc) rfl (X.hd hd)  ho hp q) k
theorem Wk.ifY (X : Wk co Z a0 EL own bytes maxL ret nm ws p l e R s m args below meth c vm0 T h locs cells slots) {cd : ClassFile.Cond} {x : Int32} {o : Int} (hd : decode bytes pc = .ok (.ifCond cd o, 3)) (hc : ifCond.holds cd x = true) (ho : 0 ≤ (pc : Int) + o) (hp : ((pc : Int) + o).toNat = pc') (k : Ends p e below G (T.setTop (mkF m pc' ls rest))) : Ends p e below G (T.setTop (mkF m pc ls (.int x :: rest))) :=
  Ends.go (fun _ q => XS.ifYes X.st.here X.hx rfl (pc0 := pc) rfl (X.hd hd) rfl hc ho hp q) k
theorem Wk.ifN (X : Wk co Z a0 EL own bytes maxL ret nm ws p l e R s m args below meth c vm0 T h locs cells slots) {cd : ClassFile.Cond} {x : Int32} {o : Int} (hd : decode bytes pc = .ok (.ifCond cd o, 3)) (hc : ifCond.holds cd x = false) (hp : pc + 3 = pc') (k : Ends p e below G (T.setTop (mkF m pc' ls rest))) : Ends p e below G (T.setTop (mkF m pc ls (.int x :: rest))) := by
  subst hp; exact Ends.go (fun _ q => XS.ifNo X.st.here X.hx rfl (X.hd hd) rfl hc q) k
theorem Wk.icY (X : Wk co Z a0 EL own bytes maxL ret nm ws p l e R s m args below meth c vm0 T h locs cells slots) {cd : ClassFile.Cond} {x y : Int32} {o : Int} (hd : decode bytes pc = .ok (.if_icmp cd o, 3)) (hc : if_icmp.holds cd x y = true) (ho : 0 ≤ (pc : Int) + o) (hp : ((pc : Int) + o).toNat = pc') (k : Ends p e below G (T.setTop (mkF m pc' ls rest))) : Ends p e below G (T.setTop (mkF m pc ls (.int y :: .int x :: rest))) :=
  Ends.go (fun _ q => XS.icmpYes X.st.here X.hx rfl (pc0 := pc) rfl (X.hd hd) rfl hc ho hp q) k
theorem Wk.icN (X : Wk co Z a0 EL own bytes maxL ret nm ws p l e R s m args below meth c vm0 T h locs cells slots) {cd : ClassFile.Cond} {x y : Int32} {o : Int} (hd : decode bytes pc = .ok (.if_icmp cd o, 3)) (hc : if_icmp.holds cd x y = false) (hp : pc + 3 = pc') (k : Ends p e below G (T.setTop (mkF m pc' ls rest))) : Ends p e below G (T.setTop (mkF m pc ls (.int y :: .int x :: rest))) := by
  subst hp; exact Ends.go (fun _ q => XS.icmpNo X.st.here X.hx rfl (X.hd hd) rfl hc q) k
theorem Wk.nullY (X : Wk co Z a0 EL own bytes maxL ret nm ws p l e R s m args below meth c vm0 T h locs cells slots)  {o : Int} (hd : decode bytes pc = .ok (.ifnull o, 3))  (ho : 0 ≤ (pc : Int) + o) (hp : ((pc : Int) + o).toNat = pc') (k : Ends p e below G (T.setTop (mkF m pc' ls rest))) : Ends p e below G (T.setTop (mkF m pc ls (.null :: rest))) :=
  Ends.go (fun _ q => XS.ifnullYes X.st.here X.hx rfl (pc0 := pc) rfl (X.hd hd) rfl ho hp q) k
theorem Wk.nullN (X : Wk co Z a0 EL own bytes maxL ret nm ws p l e R s m args below meth c vm0 T h locs cells slots) {b : Addr} {o : Int} (hd : decode bytes pc = .ok (.ifnull o, 3))  (hp : pc + 3 = pc') (k : Ends p e below G (T.setTop (mkF m pc' ls rest))) : Ends p e below G (T.setTop (mkF m pc ls (.ref b :: rest))) := by
  subst hp; exact Ends.go (fun _ q => XS.ifnullNo X.st.here X.hx rfl (X.hd hd) rfl q) k
theorem Wk.nonY (X : Wk co Z a0 EL own bytes maxL ret nm ws p l e R s m args below meth c vm0 T h locs cells slots) {b : Addr} {o : Int} (hd : decode bytes pc = .ok (.ifnonnull o, 3))  (ho : 0 ≤ (pc : Int) + o) (hp : ((pc : Int) + o).toNat = pc') (k : Ends p e below G (T.setTop (mkF m pc' ls rest))) : Ends p e below G (T.setTop (mkF m pc ls (.ref b :: rest))) :=
  Ends.go (fun _ q => XS.ifnonnullYes X.st.here X.hx rfl (pc0 := pc) rfl (X.hd hd) rfl ho hp q) k
theorem Wk.nonN (X : Wk co Z a0 EL own bytes maxL ret nm ws p l e R s m args below meth c vm0 T h locs cells slots)  {o : Int} (hd : decode bytes pc = .ok (.ifnonnull o, 3))  (hp : pc + 3 = pc') (k : Ends p e below G (T.setTop (mkF m pc' ls rest))) : Ends p e below G (T.setTop (mkF m pc ls (.null :: rest))) := by
  subst hp; exact Ends.go (fun _ q => XS.ifnonnullNo X.st.here X.hx rfl (X.hd hd) rfl q) k
theorem Wk.acmp (X : Wk co Z a0 EL own bytes maxL ret nm ws p l e R s m args below meth c vm0 T h locs cells slots) {cd : ACond} {x y : Value} {o : Int} (hd : decode bytes pc = .ok (.if_acmp cd o, 3)) (h1 : x.isRef = true) (h2 : y.isRef = true) (same : Bool) (hq : decide (x = y) = same) (ho : 0 ≤ (pc : Int) + o) (hp : pc' = if acV cd same = true then ((pc : Int) + o).toNat else pc + 3) (k : Ends p e below G (T.setTop (mkF m pc' ls rest))) : Ends p e below G (T.setTop (mkF m pc ls (y :: x :: rest))) :=
  Ends.go (fun _ q => Jvm.RoadKit.acmp (g := mkF m pc ls (y :: x :: rest)) X.st X.hx rfl h1 h2 (pc0 := pc) rfl (X.hd hd) rfl hq ho hp q) k
theorem Wk.getF (X : Wk co Z a0 EL own bytes maxL ret nm ws p l e R s m args below meth c vm0 T h locs cells slots) {R0 O n d : String} {index : Nat} (w : (Cond.fieldLink own index R0 n d).before a0 Z = true) (via : Via Z R0 O n d) {a : Addr} {v : Value} (F : Fld Z h a O n d v) (hd : decode bytes pc = .ok (.getfield index, 3)) (hp : pc + 3 = pc') (k : ∀ T, Wk co Z a0 EL own bytes maxL ret nm ws p l e R s m args below meth c vm0 T h locs cells slots → Ends p e below G (T.setTop (mkF m pc' ls (v :: rest)))) : Ends p e below G (T.setTop (mkF m pc ls (.ref a :: rest))) := by
  subst hp
  obtain ⟨T', Y, e', st⟩ := RoadKit.getF X.st X.hx X.hZ X.hown (host := "") (Or.inl w) via X.eT F (g := mkF m pc ls (.ref a :: rest)) rfl rfl (X.hd hd)
  exact Ends.go (fun _ q => st _ q) (k _ (X.same Y e'))
theorem Wk.getS (X : Wk co Z a0 EL own bytes maxL ret nm ws p l e R s m args below meth c vm0 T h locs cells slots) {R0 O n d : String} {index : Nat} (w : (Cond.fieldLink own index R0 n d).before a0 Z = true) (via : Via Z R0 O n d) {v : Value} (F : Sta Z Z.heap O n d v) (hd : decode bytes pc = .ok (.getstatic index, 3)) (hp : pc + 3 = pc') (k : ∀ T, Wk co Z a0 EL own bytes maxL ret nm ws p l e R s m args below meth c vm0 T h locs cells slots → Ends p e below G (T.setTop (mkF m pc' ls (v :: rest)))) : Ends p e below G (T.setTop (mkF m pc ls rest)) := by
  subst hp
  obtain ⟨T', Y, e', st⟩ := RoadKit.getS (host := "") X.st X.hx X.hZ X.hown w via X.eT (F.ext X.old) (g := mkF m pc ls rest) rfl (X.hd hd)
  exact Ends.go (fun _ q => st _ q) (k _ (X.same Y e'))
theorem Wk.putF (X : Wk co Z a0 EL own bytes maxL ret nm ws p l e R s m args below meth c vm0 T h locs cells slots) {R0 O n d C : String} {index kk : Nat} (w : (Cond.fieldLink own index R0 n d).before a0 Z = true) (via : Via Z R0 O n d) {a : Addr} {v old : Value} (F : Fld Z h a O n d old) (E : Exa Z h a C) (L : (Cond.lays C O n d).before a0 Z = true ∨ ((Cond.laysFinal C O n d).before a0 Z = true ∧ own = O ∧ nm = "<init>")) (wi : (Cond.instantiable C kk).before a0 Z = true) (ty : FieldType) (hty : parseFieldDescriptor d = some ty) (hn : narrow ty v = v) (hf : fits ty v = true) (S : Safe Z EL vm0 h a) (hz : Z.heap.size ≤ a) (hk : a ∈ ws ∨ s.heap.size ≤ a) (hd : decode bytes pc = .ok (.putfield index, 3)) (hp : pc + 3 = pc') (k : ∀ T h' L, Wk co Z a0 EL own bytes maxL ret nm ws p l e R s m args below meth c vm0 T h' L cells slots → Wr h h' a (RoadKit.slotOf Z O n d) v → Ends p e below G (T.setTop (mkF m pc' ls rest))) : Ends p e below G (T.setTop (mkF m pc ls (v :: .ref a :: rest))) := by
  subst hp
  obtain ⟨T', h', Y, e', W, st⟩ := RoadKit.putF X.st X.hx X.hZ X.hown (host := "") (Or.inl w) via X.eT F E (L.imp id fun q => ⟨q.1, q.2.1, X.hnm.trans q.2.2⟩) wi hty hn hf (g := mkF m pc ls (v :: .ref a :: rest)) rfl rfl (X.hd hd)
  exact Ends.go (fun _ q => st _ q) (k _ _ _ (X.wr Y e' W S hz hk) W)
theorem Wk.newO (X : Wk co Z a0 EL own bytes maxL ret nm ws p l e R s m args below meth c vm0 T h locs cells slots) {C : String} {index n : Nat} (w : (Cond.classLink own index C).before a0 Z = true) (wi : (Cond.instantiable C n).before a0 Z = true) (wz : (Cond.initialized C).before a0 Z = true) (hd : decode bytes pc = .ok (.new index, 3)) (hc : cells + 1 ≤ R.cells) (hl : slots + n ≤ R.slots) (hp : pc + 3 = pc') (k : ∀ T h' b, b = h.size → Ext h h' → b < h'.size → Exa Z h' b C → (∀ {O nm d : String} {ty : FieldType}, Laid Z a0 C O nm d → parseFieldDescriptor d = some ty → Fld Z h' b O nm d (defaultValue ty)) → Wk co Z a0 EL own bytes maxL ret nm ws p l e R s m args below meth c vm0 T h' locs (cells + 1) (slots + n) → Ends p e below G (T.setTop (mkF m pc' ls (.ref b :: rest)))) : Ends p e below G (T.setTop (mkF m pc ls rest)) := by
  subst hp
  obtain ⟨T', h', Y, e', E, A, D, -, st⟩ := RoadKit.newO X.st X.hx X.hZ X.hown w wi wz X.eT (g := mkF m pc ls rest) rfl (X.hd hd) hc hl
  exact Ends.go (fun _ q => st _ q) (k _ _ _ rfl E A.lt A D (X.ext Y e' E))
theorem Wk.newP (X : Wk co Z a0 EL own bytes maxL ret nm ws p l e R s m args below meth c vm0 T h locs cells slots) {aty : ArrayType} (w : (Cond.arrayClass (newarray.typeOf aty)).before a0 Z = true) {n : Int32} (hd : decode bytes pc = .ok (.newarray aty, 2)) (hn : ¬ n < 0) (cap : Nat) (hcap : n.toNatClampNeg ≤ cap) (hb : cap * 8 ≤ 536870912) (hc : cells + 1 ≤ R.cells) (hl : slots + cap ≤ R.slots) (hp : pc + 2 = pc') (k : ∀ T h' b ka, b = h.size → Ext h h' → b < h'.size → Arv Z h' b ka (newarray.typeOf aty) n [] (defaultValue (newarray.typeOf aty)) → Wk co Z a0 EL own bytes maxL ret nm ws p l e R s m args below meth c vm0 T h' locs (cells + 1) (slots + cap) → Ends p e below G (T.setTop (mkF m pc' ls (.ref b :: rest)))) : Ends p e below G (T.setTop (mkF m pc ls (.int n :: rest))) := by
  subst hp
  obtain ⟨T', h', ka, Y, e', E, A, st⟩ := RoadKit.newP X.st X.hx X.hZ w X.eT (g := mkF m pc ls (.int n :: rest)) rfl (X.hd hd) rfl hn hcap hb hc hl
  exact Ends.go (fun _ q => st _ q) (k _ _ _ _ rfl E A.lt (Arv.new A hn) (X.ext Y e' E))
theorem Wk.castore (X : Wk co Z a0 EL own bytes maxL ret nm ws p l e R s m args below meth c vm0 T h locs cells slots) {a : Addr} {ka : ClassId} {z j x : Int32} {vs : List Value} {dv : Value} (A : Arv Z h a ka .char z vs dv) (hj : ¬ j < 0 ∧ j < z) (i : Nat) (hi : j.toNatClampNeg = i) (hl : i < vs.length) (hz : Z.heap.size ≤ a) (hk : a ∈ ws ∨ s.heap.size ≤ a) (hd : decode bytes pc = .ok (.castore, 1)) (hp : pc + 1 = pc') (k : ∀ T h' L, Wk co Z a0 EL own bytes maxL ret nm ws p l e R s m args below meth c vm0 T h' L cells slots → Wr h h' a j.toNatClampNeg (.int (nar .char x)) → Arv Z h' a ka .char z (vs.set i (.int (nar .char x))) dv → Ends p e below G (T.setTop (mkF m pc' ls rest))) : Ends p e below G (T.setTop (mkF m pc ls (.int x :: .int j :: .ref a :: rest))) := by
  subst hp
  have S0 := (Safe.arv (EL := EL) X.al A (by decide))
  obtain ⟨cl, Ar, q1, S1, N1, H1, G1⟩ := A
  obtain ⟨T', h', Y, e', W, st⟩ := RoadKit.stC X.st X.hx X.hZ X.eT Ar (j := j) (inb_of S1 hj) (g := mkF m pc ls (.int x :: .int j :: .ref a :: rest)) rfl rfl (X.hd hd)
  exact Ends.go (fun _ q => st _ q) (k _ _ _ (X.wr Y e' W S0 hz hk) W (Arv.set Ar q1 S1 N1 H1 G1 (fits_nar_char _) W i hi hl))
theorem Wk.bastore (X : Wk co Z a0 EL own bytes maxL ret nm ws p l e R s m args below meth c vm0 T h locs cells slots) {a : Addr} {ka : ClassId} {z j x : Int32} {vs : List Value} {dv : Value} (A : Arv Z h a ka .byte z vs dv) (hj : ¬ j < 0 ∧ j < z) (i : Nat) (hi : j.toNatClampNeg = i) (hl : i < vs.length) (S : Safe Z EL vm0 h a) (hz : Z.heap.size ≤ a) (hk : a ∈ ws ∨ s.heap.size ≤ a) (hd : decode bytes pc = .ok (.bastore, 1)) (hp : pc + 1 = pc') (k : ∀ T h' L, Wk co Z a0 EL own bytes maxL ret nm ws p l e R s m args below meth c vm0 T h' L cells slots → Wr h h' a j.toNatClampNeg (.int (nar .byte x)) → Arv Z h' a ka .byte z (vs.set i (.int (nar .byte x))) dv → Ends p e below G (T.setTop (mkF m pc' ls rest))) : Ends p e below G (T.setTop (mkF m pc ls (.int x :: .int j :: .ref a :: rest))) := by
  subst hp
  have S0 := S
  obtain ⟨cl, Ar, q1, S1, N1, H1, G1⟩ := A
  obtain ⟨T', h', Y, e', W, st⟩ := RoadKit.stB X.st X.hx X.hZ X.eT Ar (j := j) (inb_of S1 hj) (g := mkF m pc ls (.int x :: .int j :: .ref a :: rest)) rfl rfl (X.hd hd)
  exact Ends.go (fun _ q => st _ q) (k _ _ _ (X.wr Y e' W S0 hz hk) W (Arv.set Ar q1 S1 N1 H1 G1 (fits_nar_byte _) W i hi hl))
theorem Wk.caload (X : Wk co Z a0 EL own bytes maxL ret nm ws p l e R s m args below meth c vm0 T h locs cells slots) {a : Addr} {ka : ClassId} {z j v : Int32} {vs : List Value} {dv : Value} (A : Arv Z h a ka .char z vs dv) (hj : ¬ j < 0 ∧ j < z) (hv : vs.getD j.toNatClampNeg dv = .int v) (hd : decode bytes pc = .ok (.caload, 1)) (hp : pc + 1 = pc') (k : Ends p e below G (T.setTop (mkF m pc' ls (.int v :: rest)))) : Ends p e below G (T.setTop (mkF m pc ls (.int j :: .ref a :: rest))) := by
  subst hp
  obtain ⟨cl, Ar, q1, S1, N1, H1, G1⟩ := A
  have hin := inb_of S1 hj
  exact Ends.go (fun t q => X.st.caload X.hx (j := j) (v := .int v) (by rw [X.eT]; exact Ar.1) (State.isArrayOf_alike X.al Ar.2.1) Ar.2.2 hin (H1.at hin hv) (g := mkF m pc ls (.int j :: .ref a :: rest)) rfl rfl (X.hd hd) t q) k
theorem Wk.baload (X : Wk co Z a0 EL own bytes maxL ret nm ws p l e R s m args below meth c vm0 T h locs cells slots) {a : Addr} {ka : ClassId} {z j v : Int32} {vs : List Value} {dv : Value} (A : Arv Z h a ka .byte z vs dv) (hj : ¬ j < 0 ∧ j < z) (hv : vs.getD j.toNatClampNeg dv = .int v) (hd : decode bytes pc = .ok (.baload, 1)) (hp : pc + 1 = pc') (k : Ends p e below G (T.setTop (mkF m pc' ls (.int v :: rest)))) : Ends p e below G (T.setTop (mkF m pc ls (.int j :: .ref a :: rest))) := by
  subst hp
  obtain ⟨cl, Ar, q1, S1, N1, H1, G1⟩ := A
  have hin := inb_of S1 hj
  exact Ends.go (fun t q => X.st.baloadBytes X.hx (j := j) (v := .int v) (by rw [X.eT]; exact Ar.1) (State.isArrayOf_alike X.al Ar.2.1) Ar.2.2 hin (H1.at hin hv) (g := mkF m pc ls (.int j :: .ref a :: rest)) rfl rfl (X.hd hd) t q) k
theorem Wk.alen (X : Wk co Z a0 EL own bytes maxL ret nm ws p l e R s m args below meth c vm0 T h locs cells slots) {a : Addr} {ka : ClassId} {ty : FieldType} {z : Int32} {vs : List Value} {dv : Value} (A : Arv Z h a ka ty z vs dv) (hd : decode bytes pc = .ok (.arraylength, 1)) (hp : pc + 1 = pc') (k : Ends p e below G (T.setTop (mkF m pc' ls (.int z :: rest)))) : Ends p e below G (T.setTop (mkF m pc ls (.ref a :: rest))) := by
  subst hp
  obtain ⟨cl, Ar, q1, S1, N1, H1, G1⟩ := A
  refine Ends.go (fun t q => X.st.arraylength X.hx (by rw [X.eT]; exact Ar.1) (State.isArrayOf_alike X.al Ar.2.1) (g := mkF m pc ls (.ref a :: rest)) rfl rfl (X.hd hd) t ?_) k
  rw [len_of S1 N1]; exact q
theorem Wk.castY (X : Wk co Z a0 EL own bytes maxL ret nm ws p l e R s m args below meth c vm0 T h locs cells slots) {K : String} {index : Nat} (w : (Cond.classLink own index K).before a0 Z = true) {a : Addr} (F : Ins Z h a K true) (hd : decode bytes pc = .ok (.checkcast index, 3)) (hp : pc + 3 = pc') (k : ∀ T, Wk co Z a0 EL own bytes maxL ret nm ws p l e R s m args below meth c vm0 T h locs cells slots → Ends p e below G (T.setTop (mkF m pc' ls (.ref a :: rest)))) : Ends p e below G (T.setTop (mkF m pc ls (.ref a :: rest))) := by
  subst hp
  obtain ⟨T', Y, e', st⟩ := RoadKit.castY X.st X.hx X.hZ X.hown w X.eT F (g := mkF m pc ls (.ref a :: rest)) rfl rfl (X.hd hd)
  exact Ends.go (fun _ q => st _ q) (k _ (X.same Y e'))
theorem Wk.instY (X : Wk co Z a0 EL own bytes maxL ret nm ws p l e R s m args below meth c vm0 T h locs cells slots) {K : String} {index : Nat} (w : (Cond.classLink own index K).before a0 Z = true) {a : Addr} (F : Ins Z h a K true) (hd : decode bytes pc = .ok (.instanceof index, 3)) (hp : pc + 3 = pc') (k : ∀ T, Wk co Z a0 EL own bytes maxL ret nm ws p l e R s m args below meth c vm0 T h locs cells slots → Ends p e below G (T.setTop (mkF m pc' ls (.int 1 :: rest)))) : Ends p e below G (T.setTop (mkF m pc ls (.ref a :: rest))) := by
  subst hp
  obtain ⟨T', Y, e', st⟩ := RoadKit.instY X.st X.hx X.hZ X.hown w X.eT F (g := mkF m pc ls (.ref a :: rest)) rfl rfl (X.hd hd)
  exact Ends.go (fun _ q => st _ q) (k _ (X.same Y e'))
theorem Wk.instNo (X : Wk co Z a0 EL own bytes maxL ret nm ws p l e R s m args below meth c vm0 T h locs cells slots) {K C : String} {index : Nat} (w : (Cond.classLink own index K).before a0 Z = true) {a : Addr} (E : Exa Z h a C) (F : ∃ c t, Z.vm.findClass C = some c ∧ Z.vm.findClass K = some t ∧ Z.vm.assignable c t = false) (hd : decode bytes pc = .ok (.instanceof index, 3)) (hp : pc + 3 = pc') (k : ∀ T, Wk co Z a0 EL own bytes maxL ret nm ws p l e R s m args below meth c vm0 T h locs cells slots → Ends p e below G (T.setTop (mkF m pc' ls (.int 0 :: rest)))) : Ends p e below G (T.setTop (mkF m pc ls (.ref a :: rest))) := by
  subst hp
  obtain ⟨T', Y, e', st⟩ := RoadKit.instNo X.st X.hx X.hZ X.hown w X.eT E F (g := mkF m pc ls (.ref a :: rest)) rfl rfl (X.hd hd)
  exact Ends.go (fun _ q => st _ q) (k _ (X.same Y e'))
theorem Wk.instNull (X : Wk co Z a0 EL own bytes maxL ret nm ws p l e R s m args below meth c vm0 T h locs cells slots) {index : Nat} (hd : decode bytes pc = .ok (.instanceof index, 3)) (hp : pc + 3 = pc') (k : Ends p e below G (T.setTop (mkF m pc' ls (.int 0 :: rest)))) : Ends p e below G (T.setTop (mkF m pc ls (.null :: rest))) := by
  subst hp
  exact Ends.go (fun t q => X.st.instanceofNull X.hx (g := mkF m pc ls (.null :: rest)) rfl rfl (X.hd hd) t q) k
theorem Wk.ldcI (X : Wk co Z a0 EL own bytes maxL ret nm ws p l e R s m args below meth c vm0 T h locs cells slots) {index : Nat} {v : Int32} (w : (Cond.constant own index v).before a0 Z = true) (hd : decode bytes pc = .ok (.ldc index, 2)) (hp : pc + 2 = pc') (k : Ends p e below G (T.setTop (mkF m pc' ls (.int v :: rest)))) : Ends p e below G (T.setTop (mkF m pc ls rest)) := by
  subst hp
  exact Ends.go (fun t q => X.st.ldcInt X.hx X.hown (mvT X.hZ w) (g := mkF m pc ls rest) rfl (X.hd hd) t q) k
theorem Wk.ldcJ (X : Wk co Z a0 EL own bytes maxL ret nm ws p l e R s m args below meth c vm0 T h locs cells slots) {index : Nat} {v : Int64} (w : (Cond.constantLong own index v).before a0 Z = true) (hd : decode bytes pc = .ok (.ldc2_w index, 3)) (hp : pc + 3 = pc') (k : Ends p e below G (T.setTop (mkF m pc' ls (.long v :: rest)))) : Ends p e below G (T.setTop (mkF m pc ls rest)) := by
  subst hp
  exact Ends.go (fun t q => X.st.ldc2Long X.hx X.hown (mvT X.hZ w) (g := mkF m pc ls rest) rfl (X.hd hd) t q) k
theorem Wk.initO (X : Wk co Z a0 EL own bytes maxL ret nm ws p l e R s m args below meth c vm0 T h locs cells slots) {idx : Nat} (w1 : (Cond.methodLink own idx Lib.objectInit).before a0 Z = true) (w2 : (Cond.instanceMethod Lib.objectInit).before a0 Z = true) (w3 : (Cond.code Lib.objectInit ⟨#[0xb1]⟩ 1 none).before a0 Z = true) {a : Addr} (hls : ls.size = maxL) (hd : decode bytes pc = .ok (.invokespecial idx, 3)) (hfr : 1 ≤ R.frames) (hlo : (rest.map fun v => v.category).sum + 12 ≤ R.locals) (hp : pc + 3 = pc') (k : ∀ T, Wk co Z a0 EL own bytes maxL ret nm ws p l e R s m args below meth c vm0 T h locs cells slots → Ends p e below G (T.setTop (mkF m pc' ls rest))) : Ends p e below G (T.setTop (mkF m pc ls (.ref a :: rest))) := by
  subst hp
  obtain ⟨T', Y, e', st⟩ := RoadKit.initO X.st X.hx X.hZ X.hown w1 w2 w3 X.eT (g := mkF m pc ls (.ref a :: rest)) rfl (hls.trans X.hml.symm) rfl (X.hd hd) hfr (W := (rest.map fun v => v.category).sum) (by show 2 * 0 + _ ≤ _; rw [Nat.mul_zero, Nat.zero_add]; exact Nat.le_refl _) (by omega)
  exact Ends.go (fun _ q => st _ q) (k _ (X.same Y e'))
/-- ldc of a String constant of EL, read -/
theorem Wk.ldcS (X : Wk true Z a0 EL own bytes maxL ret nm ws p l e R s m args below meth c vm0 T h locs cells slots) {index : Nat} {text : String} (w : (Cond.stringLink own index text).before a0 Z = true) (wS : ∀ a ∈ Bundle.stringAtoms, a.before a0 Z = true) (hmem : (own, index) ∈ EL) {vs : List Value} {z : Int32} (ht : (∀ c ∈ text.toList, c.toNat < 256) ∧ text.toList.map (fun c => Value.int (Jvm.Lit.byteI c.toNat.toUInt16)) = vs) (hz : ¬ z < 0) (hl : z.toNatClampNeg = vs.length) (hd : decode bytes pc = .ok (.ldc index, 2)) (n : Nat) (hn : 4 * text.toList.length ≤ n) (hbig : n ≤ 536870912) (hc : cells + 2 ≤ R.cells) (hl' : slots + (n + 4) ≤ R.slots) (hp : pc + 2 = pc') (k : ∀ (T : State) (vm : Vm) (h' : Heap) (a b : Addr) (ka : ClassId), Ext h h' → CHr Z EL vm0 h vm h' → Exa Z h' a "java/lang/String" → Fld Z h' a "java/lang/String" "coder" "B" (.int 0) → Fld Z h' a "java/lang/String" "value" "[B" (.ref b) → Arv Z h' b ka .byte z vs (.int 0) → a < h'.size → b < h'.size → (∀ x, Safe Z EL vm h' x → x ≠ a ∧ x ≠ b) → Wk true Z a0 EL own bytes maxL ret nm ws p l e R s m args below meth c vm T h' locs (cells + 2) (slots + (n + 4)) → Ends p e below G (T.setTop (mkF m pc' ls (.ref a :: rest)))) : Ends p e below G (T.setTop (mkF m pc ls rest)) := by
  subst hp
  obtain ⟨k0, k1, k2⟩ := X.since
  obtain ⟨a, T', h', kk, b, ka, Y, rfl, E, hS, hk, hW, ho, x1, x2, x3, x4, x5, x6, hC, -, hsf, st⟩ := RoadKit.ldcCH X.st X.hx X.hZ X.hown w wS X.eT k1 k2 X.ew hmem X.H ht hz hl (g := mkF m pc ls rest) rfl (X.hd hd) hn hbig hc hl'
  exact Ends.go (fun _ q => st _ q) (k _ _ _ _ _ _ E hC x1 x2 x3 x4 x5 x6 hsf ⟨Y, rfl, ⟨_, hS, hk⟩, fun q => (by cases q), hW, ho, X.ch.trans hC, X.ew, X.2.2.2.2.2.2.2.2.1, ⟨Nat.le_trans X.old.1 E.1, fun a cl q => E.2 _ _ (X.old.2 _ _ q)⟩, X.fr, X.kp.ext E⟩)
/-- ldc of any String constant, opaque -/
theorem Wk.ldcO (X : Wk true Z a0 EL own bytes maxL ret nm ws p l e R s m args below meth c vm0 T h locs cells slots) {index : Nat} {text : String} (w : (Cond.stringLink own index text).before a0 Z = true) (wS : ∀ a ∈ Bundle.stringAtoms, a.before a0 Z = true) (hd : decode bytes pc = .ok (.ldc index, 2)) (n : Nat) (hn : 4 * text.toList.length ≤ n) (hbig : n ≤ 536870912) (hc : cells + 2 ≤ R.cells) (hl' : slots + (n + 4) ≤ R.slots) (hp : pc + 2 = pc') (k : ∀ (T : State) (vm : Vm) (h' : Heap) (a : Addr), Ext h h' → CHr Z EL vm0 h vm h' → Wk true Z a0 EL own bytes maxL ret nm ws p l e R s m args below meth c vm T h' locs (cells + 2) (slots + (n + 4)) → Ends p e below G (T.setTop (mkF m pc' ls (.ref a :: rest)))) : Ends p e below G (T.setTop (mkF m pc ls rest)) := by
  subst hp
  obtain ⟨k0, k1, k2⟩ := X.since
  obtain ⟨a, T', h', kk, Y, rfl, E, hS, hk, hW, ho, hC, -, st⟩ := RoadKit.ldcOH X.st X.hx X.hZ X.hown w wS X.eT k1 k2 X.ew X.H (g := mkF m pc ls rest) rfl (X.hd hd) hn hbig hc hl'
  exact Ends.go (fun _ q => st _ q) (k _ _ _ _ E hC ⟨Y, rfl, ⟨_, hS, hk⟩, fun q => (by cases q), hW, ho, X.ch.trans hC, X.ew, X.2.2.2.2.2.2.2.2.1, ⟨Nat.le_trans X.old.1 E.1, fun a cl q => E.2 _ _ (X.old.2 _ _ q)⟩, X.fr, X.kp.ext E⟩)
end Walk
/-- what a method's law says; narrow -/
def MN (l : Launch) (Z : State) (y : MethodName) (bytes : ByteArray) (maxL : Nat) (ret : Option FieldType) (xs : List Jvm.Cond) (rm : Room) (as' : Array Value) (h : Heap) (ws : List Addr) (Q : Option Value → Heap → Prop) : Prop :=
  MetFree l y (head1 (Cond.code y bytes maxL ret :: xs) rm) (fun a U => a = as' ∧ Z.Warmed39 U.vm ∧ U.heap = h) (fun _ _ _ _ _ => True) (fun _ U o U' => ∃ v L, o = .returned v ∧ (Q v U'.heap ∧ Fr Z.heap.size L ∧ Keep h U'.heap ws ∧ Ext Z.heap U'.heap) ∧ FrameEnd U o U' L rm.cells rm.slots)
/-- .. of one that may intern -/
def MCc (l : Launch) (Z : State) (EL : List (String × Nat)) (y : MethodName) (bytes : ByteArray) (maxL : Nat) (ret : Option FieldType) (xs : List Jvm.Cond) (rm : Room) (as' : Array Value) (h : Heap) (ws : List Addr) (Q : Option Value → Heap → Prop) : Prop :=
  MetFree l y (head1 (Cond.code y bytes maxL ret :: xs) rm) (fun a U => a = as' ∧ Z.Warmed39 U.vm ∧ U.heap = h ∧ CHv Z EL U.vm h) (fun _ _ _ _ _ => True) (fun _ U o U' => ∃ v L, o = .returned v ∧ (Q v U'.heap ∧ Fr Z.heap.size L ∧ Keep h U'.heap ws ∧ Ext Z.heap U'.heap) ∧ CHr Z EL U.vm U.heap U'.vm U'.heap ∧ ReturnedEndW U o U' L rm.cells rm.slots)
def GN (Z : State) (ws : List Addr) (Q : Option Value → Heap → Prop) (rm : Room) (s : State) (o : Outcome) (U' : State) : Prop :=
  ∃ v L, o = .returned v ∧ (Q v U'.heap ∧ Fr Z.heap.size L ∧ Keep s.heap U'.heap ws ∧ Ext Z.heap U'.heap) ∧ FrameEnd s o U' L rm.cells rm.slots
def GC (Z : State) (EL : List (String × Nat)) (ws : List Addr) (Q : Option Value → Heap → Prop) (rm : Room) (s : State) (o : Outcome) (U' : State) : Prop :=
  ∃ v L, o = .returned v ∧ (Q v U'.heap ∧ Fr Z.heap.size L ∧ Keep s.heap U'.heap ws ∧ Ext Z.heap U'.heap) ∧ CHr Z EL s.vm s.heap U'.vm U'.heap ∧ ReturnedEndW s o U' L rm.cells rm.slots
abbrev RV (Q : Value → Heap → Prop) : Option Value → Heap → Prop := fun v h => ∃ w, v = some w ∧ Q w h
abbrev RU (Q : Heap → Prop) : Option Value → Heap → Prop := fun v h => v = none ∧ Q h
abbrev RO (h0 : Heap) : Option Value → Heap → Prop := fun v h => v = none ∧ h = h0
abbrev RP (h0 : Heap) (Q : Value → Prop) : Option Value → Heap → Prop := fun v h => ∃ w, v = some w ∧ h = h0 ∧ Q w
theorem MN.mk {l : Launch} {Z : State} {a0 : Array Value} {y : MethodName} {bytes : ByteArray} {maxL : Nat} {ret : Option FieldType} {xs : List Jvm.Cond} {rm : Room} {as' : Array Value} {h : Heap} {ws : List Addr} {Q : Option Value → Heap → Prop} {ls0 : Array Slot} {own nm : String} (ho : y.cls = own) (hnm : y.name = nm) (pn : plainFor y = true) (O : Ext Z.heap h) (ef : ∀ m, entryFrame m as' maxL = mkF m 0 ls0 [])
    (body : ∀ (p : Program) (e : Env) (s : State) (m : MethodId) (below : List Frame) (meth : Method) (c : Code) (T : State), s.heap = h → Wk false Z a0 [] own bytes maxL ret nm ws p l e rm s m as' below meth c s.vm T h [] 0 0 → Ends p e below (GN Z ws Q rm s) (T.setTop (mkF m 0 ls0 []))) : MN l Z y bytes maxL ret xs rm as' h ws Q := by
  subst ho hnm
  refine MetFree.of_bodySF pn hisR ?_
  intro p e s m args below meth c s₁ Bd hml hP hK
  obtain ⟨rfl, hZ, rfl⟩ := hP
  have e0 : s₁.heap = s.heap := by rw [Bd.state]; rfl
  obtain ⟨s₂, o, h1, h2, h3, v, L, h4, h5, h6⟩ := body p e s m below meth c s₁ rfl ⟨Stand.of_body Bd, e0, ⟨0, (State.WarmedH.refl s).since _, Nat.zero_le _⟩, fun _ => rfl, hZ, findClass_of_methodNamed Bd.named, chrE (Nat.le_refl _), EW.nil, ⟨Bd.exec, Bd.bytes, hml, Bd.returns, (name_of_methodNamed Bd.named Bd.method).1, Bd.notSynchronized⟩, O, Fr.nil _, Keep.refl _ _⟩
  exact ⟨s₂, o, castTop (ef m) h1, h2, h3, v, L, h4, h5, h6⟩
theorem MCc.mk {l : Launch} {Z : State} {a0 : Array Value} {EL : List (String × Nat)} {y : MethodName} {bytes : ByteArray} {maxL : Nat} {ret : Option FieldType} {xs : List Jvm.Cond} {rm : Room} {as' : Array Value} {h : Heap} {ws : List Addr} {Q : Option Value → Heap → Prop} {ls0 : Array Slot} {own nm : String} (ho : y.cls = own) (hnm : y.name = nm) (pn : plainFor y = true) (O : Ext Z.heap h) (ew : EW Z a0 EL) (ef : ∀ m, entryFrame m as' maxL = mkF m 0 ls0 [])
    (body : ∀ (p : Program) (e : Env) (s : State) (m : MethodId) (below : List Frame) (meth : Method) (c : Code) (T : State), s.heap = h → Wk true Z a0 EL own bytes maxL ret nm ws p l e rm s m as' below meth c s.vm T h [] 0 0 → Ends p e below (GC Z EL ws Q rm s) (T.setTop (mkF m 0 ls0 []))) : MCc l Z EL y bytes maxL ret xs rm as' h ws Q := by
  subst ho hnm
  refine MetFree.of_bodySF pn hisR ?_
  intro p e s m args below meth c s₁ Bd hml hP hK
  obtain ⟨rfl, hZ, rfl, hC⟩ := hP
  have e0 : s₁.heap = s.heap := by rw [Bd.state]; rfl
  obtain ⟨s₂, o, h1, h2, h3, v, L, h4, h5, h6⟩ := body p e s m below meth c s₁ rfl ⟨Stand.of_body Bd, e0, ⟨0, (State.WarmedH.refl s).since _, Nat.zero_le _⟩, fun _ => rfl, hZ, findClass_of_methodNamed Bd.named, CHr.refl hC, ew, ⟨Bd.exec, Bd.bytes, hml, Bd.returns, (name_of_methodNamed Bd.named Bd.method).1, Bd.notSynchronized⟩, O, Fr.nil _, Keep.refl _ _⟩
  exact ⟨s₂, o, castTop (ef m) h1, h2, h3, v, L, h4, h5, h6⟩
section Ends2
variable {co : Bool} {Z : State} {a0 : Array Value} {EL : List (String × Nat)} {own : String} {bytes : ByteArray} {maxL : Nat} {ret : Option FieldType} {nm : String} {ws : List Addr} {p : Program} {l : Launch} {e : Env} {R : Room} {s : State} {m : MethodId} {args : Array Value} {below : List Frame} {meth : Method} {c : Code} {vm0 : Vm} {T : State} {h : Heap} {locs : List Loc} {cells slots : Nat} {G : Outcome → State → Prop} {pc pc' : Nat} {ls : Array Slot} {rest : List Value} {Q : Option Value → Heap → Prop}
theorem Wk.retN (X : Wk false Z a0 [] own bytes maxL ret nm ws p l e R s m args below meth c vm0 T h locs cells slots) {t : FieldType} {w : Value} {i : Instr} (hR : ret = some t) (hn : narrow t w = w) (hi : (i = .ireturn ∧ (t = .int ∨ t = .boolean ∨ t = .byte ∨ t = .char ∨ t = .short) ∧ ∃ z, w = .int z) ∨ (i = .lreturn ∧ t = .long ∧ ∃ z, w = .long z) ∨ (i = .dreturn ∧ t = .double ∧ ∃ z, w = .double z) ∨ (i = .freturn ∧ t = .float ∧ ∃ z, w = .float z) ∨ (i = .areturn ∧ t.isReference = true ∧ w.isRef = true)) (hd : decode bytes pc = .ok (i, 1)) (hc : cells ≤ R.cells) (hl : slots ≤ R.slots) (q : Q (some w) h) : Ends p e below (GN Z ws Q R s) (T.setTop (mkF m pc ls (w :: rest))) := by
  obtain ⟨fs, hr, hrun, hended, hW, hsame⟩ := X.st.leave (v := some w) (fun q => by rw [X.hret, hR] at q; cases q) X.hlk
  have hs : (s.setVm vm0) = s := by rw [X.nr rfl]; rfl
  rw [hs] at hW hsame
  exact ⟨_, _, retOut X.st X.hx (X.hret.trans hR) hn hi (X.hd hd) hr, hrun, hended, _, _, rfl, ⟨by rw [show (T.setFrames fs).heap = h from X.eT]; exact q, X.fr, by rw [show (T.setFrames fs).heap = h from X.eT]; exact X.kp, by rw [show (T.setFrames fs).heap = h from X.eT]; exact X.old⟩, ⟨_, rfl⟩, hW, hsame.mono hc hl⟩
theorem Wk.retAN {t : FieldType} (X : Wk false Z a0 [] own bytes maxL (some t) nm ws p l e R s m args below meth c vm0 T h locs cells slots) {w : Value} (ht : t.isReference = true) (hw : w.isRef = true) (hd : decode bytes pc = .ok (.areturn, 1)) (hc : cells ≤ R.cells) (hl : slots ≤ R.slots) (q : Q (some w) h) : Ends p e below (GN Z ws Q R s) (T.setTop (mkF m pc ls (w :: rest))) :=
  X.retN rfl (by cases t <;> first | (cases ht; done) | (rcases ref_cases hw with rfl | ⟨z, rfl⟩ <;> rfl)) (Or.inr (Or.inr (Or.inr (Or.inr ⟨rfl, ht, hw⟩)))) hd hc hl q
theorem Wk.retIN {t : FieldType} (X : Wk false Z a0 [] own bytes maxL (some t) nm ws p l e R s m args below meth c vm0 T h locs cells slots) {z : Int32} (ht : t = .int ∨ t = .boolean ∨ t = .byte ∨ t = .char ∨ t = .short) (hn : narrow t (.int z) = .int z) (hd : decode bytes pc = .ok (.ireturn, 1)) (hc : cells ≤ R.cells) (hl : slots ≤ R.slots) (q : Q (some (.int z)) h) : Ends p e below (GN Z ws Q R s) (T.setTop (mkF m pc ls (.int z :: rest))) :=
  X.retN rfl hn (Or.inl ⟨rfl, ht, z, rfl⟩) hd hc hl q
theorem Wk.retUN (X : Wk false Z a0 [] own bytes maxL none nm ws p l e R s m args below meth c vm0 T h locs cells slots) (hd : decode bytes pc = .ok (.return_, 1)) (hc : cells ≤ R.cells) (hl : slots ≤ R.slots) (q : Q none h) : Ends p e below (GN Z ws Q R s) (T.setTop (mkF m pc ls [])) := by
  obtain ⟨fs, hr, hrun, hended, hW, hsame⟩ := X.st.leave (v := none) (fun _ => rfl) X.hlk
  have hs : (s.setVm vm0) = s := by rw [X.nr rfl]; rfl
  rw [hs] at hW hsame
  exact ⟨_, _, X.st.returnOut X.hx X.hret (X.hd hd) hr, hrun, hended, _, _, rfl, ⟨by rw [show (T.setFrames fs).heap = h from X.eT]; exact q, X.fr, by rw [show (T.setFrames fs).heap = h from X.eT]; exact X.kp, by rw [show (T.setFrames fs).heap = h from X.eT]; exact X.old⟩, ⟨_, rfl⟩, hW, hsame.mono hc hl⟩
theorem Wk.retC (X : Wk true Z a0 EL own bytes maxL ret nm ws p l e R s m args below meth c vm0 T h locs cells slots) {t : FieldType} {w : Value} {i : Instr} (hR : ret = some t) (hn : narrow t w = w) (hi : (i = .ireturn ∧ (t = .int ∨ t = .boolean ∨ t = .byte ∨ t = .char ∨ t = .short) ∧ ∃ z, w = .int z) ∨ (i = .lreturn ∧ t = .long ∧ ∃ z, w = .long z) ∨ (i = .dreturn ∧ t = .double ∧ ∃ z, w = .double z) ∨ (i = .freturn ∧ t = .float ∧ ∃ z, w = .float z) ∨ (i = .areturn ∧ t.isReference = true ∧ w.isRef = true)) (hd : decode bytes pc = .ok (i, 1)) (hc : cells ≤ R.cells) (hl : slots ≤ R.slots) (q : Q (some w) h) : Ends p e below (GC Z EL ws Q R s) (T.setTop (mkF m pc ls (w :: rest))) := by
  obtain ⟨k0, k1, k2⟩ := X.since
  obtain ⟨fs, hr, hrun, hended, hE⟩ := X.st.leaveW k1 (by rw [X.eT]; exact k2) (v := some w) (fun q => by rw [X.hret, hR] at q; cases q) X.hlk
  obtain ⟨e1, e2, e3, e4⟩ := hE
  have c1 := CHv.at X.st X.hZ X.ew X.H
  exact ⟨_, _, retOut X.st X.hx (X.hret.trans hR) hn hi (X.hd hd) hr, hrun, hended, _, _, rfl, ⟨by rw [show (T.setFrames fs).heap = h from X.eT]; exact q, X.fr, by rw [show (T.setFrames fs).heap = h from X.eT]; exact X.kp, by rw [show (T.setFrames fs).heap = h from X.eT]; exact X.old⟩, by rw [show (T.setFrames fs).heap = h from X.eT]; exact X.ch.trans c1, e1, e2, e3, e4.mono hc hl⟩
theorem Wk.retAC {t : FieldType} (X : Wk true Z a0 EL own bytes maxL (some t) nm ws p l e R s m args below meth c vm0 T h locs cells slots) {w : Value} (ht : t.isReference = true) (hw : w.isRef = true) (hd : decode bytes pc = .ok (.areturn, 1)) (hc : cells ≤ R.cells) (hl : slots ≤ R.slots) (q : Q (some w) h) : Ends p e below (GC Z EL ws Q R s) (T.setTop (mkF m pc ls (w :: rest))) :=
  X.retC rfl (by cases t <;> first | (cases ht; done) | (rcases ref_cases hw with rfl | ⟨z, rfl⟩ <;> rfl)) (Or.inr (Or.inr (Or.inr (Or.inr ⟨rfl, ht, hw⟩)))) hd hc hl q
theorem Wk.retIC {t : FieldType} (X : Wk true Z a0 EL own bytes maxL (some t) nm ws p l e R s m args below meth c vm0 T h locs cells slots) {z : Int32} (ht : t = .int ∨ t = .boolean ∨ t = .byte ∨ t = .char ∨ t = .short) (hn : narrow t (.int z) = .int z) (hd : decode bytes pc = .ok (.ireturn, 1)) (hc : cells ≤ R.cells) (hl : slots ≤ R.slots) (q : Q (some (.int z)) h) : Ends p e below (GC Z EL ws Q R s) (T.setTop (mkF m pc ls (.int z :: rest))) :=
  X.retC rfl hn (Or.inl ⟨rfl, ht, z, rfl⟩) hd hc hl q
theorem Wk.retUC (X : Wk true Z a0 EL own bytes maxL none nm ws p l e R s m args below meth c vm0 T h locs cells slots) (hd : decode bytes pc = .ok (.return_, 1)) (hc : cells ≤ R.cells) (hl : slots ≤ R.slots) (q : Q none h) : Ends p e below (GC Z EL ws Q R s) (T.setTop (mkF m pc ls [])) := by
  obtain ⟨k0, k1, k2⟩ := X.since
  obtain ⟨fs, hr, hrun, hended, hE⟩ := X.st.leaveW k1 (by rw [X.eT]; exact k2) (v := none) (fun _ => rfl) X.hlk
  obtain ⟨e1, e2, e3, e4⟩ := hE
  have c1 := CHv.at X.st X.hZ X.ew X.H
  exact ⟨_, _, X.st.returnOut X.hx X.hret (X.hd hd) hr, hrun, hended, _, _, rfl, ⟨by rw [show (T.setFrames fs).heap = h from X.eT]; exact q, X.fr, by rw [show (T.setFrames fs).heap = h from X.eT]; exact X.kp, by rw [show (T.setFrames fs).heap = h from X.eT]; exact X.old⟩, by rw [show (T.setFrames fs).heap = h from X.eT]; exact X.ch.trans c1, e1, e2, e3, e4.mono hc hl⟩
/-- a place where y is called: the arguments a, rest what lies under them -/
def Site (p : Program) (l : Launch) (e : Env) (R : Room) (s : State) (m : MethodId) (args : Array Value) (below : List Frame) (meth : Method) (c : Code) (T : State) (locs : List Loc) (cells slots : Nat) (g : JFrame) (len : Nat) (y : MethodName) (a : Array Value) (rest : List Value) : Prop :=
  (∀ {W : Nat} {Pre : Pt → Array Value → Prop} {Post : Pt → Array Value → Option Value → Pt → Prop}, Back l R p e below s args y len W Pre Post → 2 * g.monitorRoom + (rest.map fun v => v.category).sum ≤ W → (∀ vm₁, s.WarmedH vm₁ → Pre ⟨T.setVm vm₁, locs, cells, slots⟩ a) →
    ∃ (v : Option Value) (vm₁ : Vm) (B : Pt), s.WarmedH vm₁ ∧ Stand p l e R s m args below meth c B.U B.locs B.cells B.slots ∧ Post ⟨T.setVm vm₁, locs, cells, slots⟩ a v B ∧ ∀ t, Steps p.tables e below (B.U.setTop { g with pc := g.pc + len, stack := v.toList ++ rest }) t → Steps p.tables e below (T.setTop g) t) ∧
  (∀ {W : Nat} {Pre : Pt → Array Value → Prop} {Post : Pt → Array Value → Option Value → Pt → Prop}, BackS l R p e below s args y len W Pre Post → 2 * g.monitorRoom + (rest.map fun v => v.category).sum ≤ W → (∀ vm₁, s.WarmedH vm₁ → Pre ⟨T.setVm vm₁, locs, cells, slots⟩ a) →
    ∃ (v : Option Value) (vm₁ : Vm) (B : Pt), s.WarmedH vm₁ ∧ Stand p l e R (s.setVm B.U.vm) m args below meth c B.U B.locs B.cells B.slots ∧ s.Since B.U.vm B.U.heap.size ∧ T.heap.size ≤ B.U.heap.size ∧ Post ⟨T.setVm vm₁, locs, cells, slots⟩ a v B ∧ ∀ t, Steps p.tables e below (B.U.setTop { g with pc := g.pc + len, stack := v.toList ++ rest }) t → Steps p.tables e below (T.setTop g) t)
theorem Wk.sStatic (X : Wk co Z a0 EL own bytes maxL ret nm ws p l e R s m args below meth c vm0 T h locs cells slots) {index : Nat} {y : MethodName} {ybytes : ByteArray} {ymaxL : Nat} {yret : Option FieldType} (w1 : (Cond.methodLink own index y).before a0 Z = true) (w2 : (Cond.static y).before a0 Z = true) (w3 : (Cond.initialized y.cls).before a0 Z = true) (w4 : (Cond.code y ybytes ymaxL yret).before a0 Z = true) (hy : y.cls ≠ "java/lang/invoke/MethodHandle" ∧ y.cls ≠ "java/lang/invoke/VarHandle") (hls : ls.size = maxL) {ps : List FieldType} {r : Option FieldType} (pd : parseMethodDescriptor y.desc = some ⟨ps, r⟩) (argsL : List Value) {st : List Value} (hlen : argsL.length = ps.length) (hst : st = argsL.reverse ++ rest) (hd : decode bytes pc = .ok (.invokestatic index, 3)) : Site p l e R (s.setVm vm0) m args below meth c T locs cells slots (mkF m pc ls st) 3 y argsL.toArray rest := by
  refine ⟨fun hK hW hpre => ?_, fun hK hW hpre => ?_⟩
  · exact Jvm.LawKit.callS X.st X.hx X.hown (mvT X.hZ w1) (mvT X.hZ w2) (mvT X.hZ w3) (mvT X.hZ w4) hy hK (g := mkF m pc ls st) rfl (hls.trans X.hml.symm) (lenOf pd hlen) hst hW (X.hd hd) hpre
  · obtain ⟨v, vm₁, B, h1, h2, h3, h4, h5, h6⟩ := callSS X.st X.hx X.hown (mvT X.hZ w1) (mvT X.hZ w2) (mvT X.hZ w3) (mvT X.hZ w4) hy hK (g := mkF m pc ls st) rfl (hls.trans X.hml.symm) (lenOf pd hlen) hst hW (X.hd hd) hpre
    exact ⟨v, vm₁, B, h1, h2, h3, h4, h5, fun t q => h6.trans q⟩
theorem Wk.sSpecial (X : Wk co Z a0 EL own bytes maxL ret nm ws p l e R s m args below meth c vm0 T h locs cells slots) {index : Nat} {y : MethodName} {ybytes : ByteArray} {ymaxL : Nat} (hy1 : y.name = "<init>") (w1 : (Cond.methodLink own index y).before a0 Z = true) (w2 : (Cond.instanceMethod y).before a0 Z = true) (w4 : (Cond.code y ybytes ymaxL none).before a0 Z = true) (hy : y.cls ≠ "java/lang/invoke/MethodHandle" ∧ y.cls ≠ "java/lang/invoke/VarHandle") (hls : ls.size = maxL) {ps : List FieldType} {r : Option FieldType} (pd : parseMethodDescriptor y.desc = some ⟨ps, r⟩) {a : Addr} (argsL : List Value) {st : List Value} (hlen : argsL.length = ps.length) (hst : st = argsL.reverse ++ .ref a :: rest) (hd : decode bytes pc = .ok (.invokespecial index, 3)) : Site p l e R (s.setVm vm0) m args below meth c T locs cells slots (mkF m pc ls st) 3 y (.ref a :: argsL).toArray rest := by
  refine ⟨fun hK hW hpre => ?_, fun hK hW hpre => ?_⟩
  · obtain ⟨v, vm₁, B, h1, h2, h5, h6⟩ := X.st.specialBack X.hx hy1 X.hown (mvT X.hZ w1) (mvT X.hZ w2) (mvT X.hZ w4) hy hK (g := mkF m pc ls st) rfl (hls.trans X.hml.symm) (Steps.refl _) (lenOf pd hlen) hst hW (X.hd hd) hpre
    exact ⟨v, vm₁, B, h1, h2, h5, fun t q => h6.trans q⟩
  · obtain ⟨v, vm₁, B, h1, h2, h3, h4, h5, h6⟩ := X.st.specialBackS X.hx hy1 X.hown (mvT X.hZ w1) (mvT X.hZ w2) (mvT X.hZ w4) hy hK (g := mkF m pc ls st) rfl (hls.trans X.hml.symm) (Steps.refl _) (lenOf pd hlen) hst hW (X.hd hd) hpre
    exact ⟨v, vm₁, B, h1, h2, h3, h4, h5, fun t q => h6.trans q⟩
theorem Wk.nf (X : Wk co Z a0 EL own bytes maxL ret nm ws p l e R s m args below meth c vm0 T h locs cells slots) {C : String} {y y' : MethodName} (w : (Cond.selects C y' y').before a0 Z = true) (hc : y'.cls = y.cls) : NotFace (s.setVm vm0) y := fun r0 h0 => by
  obtain ⟨c2, r2, m2, -, -, q3, -, kP, hkP, hkPi⟩ := Cond.selects_spec (mvT X.hZ w (args := #[]))
  have e1 := findClass_of_methodNamed h0
  have e2 := findClass_of_methodNamed q3
  rw [hc] at e2
  have e3 : m2.cls = r0.cls := Option.some.inj (e2.symm.trans e1)
  rw [e3] at hkP
  exact ⟨kP, hkP, hkPi⟩
theorem Wk.sVirtual (X : Wk co Z a0 EL own bytes maxL ret nm ws p l e R s m args below meth c vm0 T h locs cells slots) {index : Nat} {C : String} {y z : MethodName} (w1 : (Cond.methodLink own index y).before a0 Z = true) (w2 : (Cond.declares y).before a0 Z = true) (w3 : (Cond.selects C y z).before a0 Z = true) (w4 : (Cond.instanceMethod z).before a0 Z = true) (hy : y.cls ≠ "java/lang/invoke/MethodHandle" ∧ y.cls ≠ "java/lang/invoke/VarHandle") (hls : ls.size = maxL) {ps : List FieldType} {r : Option FieldType} (pd : parseMethodDescriptor y.desc = some ⟨ps, r⟩) {a : Addr} (E : Exa Z h a C) (argsL : List Value) {st : List Value} (hlen : argsL.length = ps.length) (hst : st = argsL.reverse ++ .ref a :: rest) (hd : decode bytes pc = .ok (.invokevirtual index, 3)) (nf : NotFace (s.setVm vm0) y) : Site p l e R (s.setVm vm0) m args below meth c T locs cells slots (mkF m pc ls st) 3 z (.ref a :: argsL).toArray rest := by
  obtain ⟨cq, kq, qa, qb, qc⟩ := isOf X.hZ X.eT E
  refine ⟨fun hK hW hpre => ?_, fun hK hW hpre => ?_⟩
  · obtain ⟨v, vm₁, B, h1, h2, h5, h6⟩ := X.st.virtualBack X.hx X.hown (mvT X.hZ w1) (mvT X.hZ w2) nf (mvT X.hZ w3) (mvT X.hZ w4) hy hK qa qc (g := mkF m pc ls st) rfl (hls.trans X.hml.symm) (Steps.refl _) (lenOf pd hlen) hst hW (X.hd hd) hpre
    exact ⟨v, vm₁, B, h1, h2, h5, fun t q => h6.trans q⟩
  · obtain ⟨v, vm₁, B, h1, h2, h3, h4, h5, h6⟩ := X.st.virtualBackS X.hx X.hown (mvT X.hZ w1) (mvT X.hZ w2) nf (mvT X.hZ w3) (mvT X.hZ w4) hy hK qa qc (g := mkF m pc ls st) rfl (hls.trans X.hml.symm) (Steps.refl _) (lenOf pd hlen) hst hW (X.hd hd) hpre
    exact ⟨v, vm₁, B, h1, h2, h3, h4, h5, fun t q => h6.trans q⟩
theorem Wk.callV (X : Wk co Z a0 EL own bytes maxL ret nm ws p l e R s m args below meth c vm0 T h locs cells slots) {len : Nat} {y : MethodName} {ybytes : ByteArray} {ymaxL : Nat} {yret : Option FieldType} {rm : Room} {a : Array Value} {wc : List Addr} {Q : Value → Heap → Prop} {st : List Value} (S : Site p l e R (s.setVm vm0) m args below meth c T locs cells slots (mkF m pc ls st) len y a rest) (M : MN l Z y ybytes ymaxL yret [] rm a h wc (RV Q)) (w4 : (Cond.code y ybytes ymaxL yret).before a0 Z = true) (w3 : (Cond.initialized y.cls).before a0 Z = true) (hf : rm.frames + 1 ≤ R.frames) (hl : (rest.map fun v => v.category).sum + (ymaxL + 11) + rm.locals ≤ R.locals) (hc : cells + rm.cells ≤ R.cells) (hs : slots + rm.slots ≤ R.slots) (Sf : ∀ x ∈ wc, Safe Z EL vm0 h x) (hz : ∀ x ∈ wc, Z.heap.size ≤ x) (hk : ∀ x ∈ wc, x ∈ ws ∨ s.heap.size ≤ x) (hp : pc + len = pc') (k : ∀ T h' L (v : Value), Wk co Z a0 EL own bytes maxL ret nm ws p l e R s m args below meth c vm0 T h' L (cells + rm.cells) (slots + rm.slots) → Keep h h' wc → Q v h' → Ends p e below G (T.setTop (mkF m pc' ls (v :: rest)))) : Ends p e below G (T.setTop (mkF m pc ls st)) := by
  subst hp
  obtain ⟨v, vm₁, ⟨T', L', k', n'⟩, h1, Y, ⟨Lc, ⟨⟨w, rfl, q1⟩, q2, q3, q4⟩, l1, l2, l3⟩, st1⟩ := S.1 (backOf (Q := fun v h' L => (RV Q) v h' ∧ Fr Z.heap.size L ∧ Keep h h' wc ∧ Ext Z.heap h') (W := (rest.map fun v => v.category).sum) M X.hZ w4 w3 hf hl) (by show 2 * 0 + _ ≤ _; rw [Nat.mul_zero, Nat.zero_add]; exact Nat.le_refl _) (fun vm₁ _ => ⟨rfl, X.eT, hc, hs⟩)
  dsimp only [Pt.U, Pt.locs, Pt.cells, Pt.slots] at Y l1 l2 l3 st1 q2 q3 q4 q1
  subst l1 l2 l3
  exact Ends.go st1 (k _ _ _ _ (X.keep Y rfl q3 Sf q2 hz hk) q3 q1)
theorem Wk.callU (X : Wk co Z a0 EL own bytes maxL ret nm ws p l e R s m args below meth c vm0 T h locs cells slots) {len : Nat} {y : MethodName} {ybytes : ByteArray} {ymaxL : Nat} {yret : Option FieldType} {rm : Room} {a : Array Value} {wc : List Addr} {Q : Heap → Prop} {st : List Value} (S : Site p l e R (s.setVm vm0) m args below meth c T locs cells slots (mkF m pc ls st) len y a rest) (M : MN l Z y ybytes ymaxL yret [] rm a h wc (RU Q)) (w4 : (Cond.code y ybytes ymaxL yret).before a0 Z = true) (w3 : (Cond.initialized y.cls).before a0 Z = true) (hf : rm.frames + 1 ≤ R.frames) (hl : (rest.map fun v => v.category).sum + (ymaxL + 11) + rm.locals ≤ R.locals) (hc : cells + rm.cells ≤ R.cells) (hs : slots + rm.slots ≤ R.slots) (Sf : ∀ x ∈ wc, Safe Z EL vm0 h x) (hz : ∀ x ∈ wc, Z.heap.size ≤ x) (hk : ∀ x ∈ wc, x ∈ ws ∨ s.heap.size ≤ x) (hp : pc + len = pc') (k : ∀ T h' L, Wk co Z a0 EL own bytes maxL ret nm ws p l e R s m args below meth c vm0 T h' L (cells + rm.cells) (slots + rm.slots) → Keep h h' wc → Q h' → Ends p e below G (T.setTop (mkF m pc' ls rest))) : Ends p e below G (T.setTop (mkF m pc ls st)) := by
  subst hp
  obtain ⟨v, vm₁, ⟨T', L', k', n'⟩, h1, Y, ⟨Lc, ⟨⟨rfl, q1⟩, q2, q3, q4⟩, l1, l2, l3⟩, st1⟩ := S.1 (backOf (Q := fun v h' L => (RU Q) v h' ∧ Fr Z.heap.size L ∧ Keep h h' wc ∧ Ext Z.heap h') (W := (rest.map fun v => v.category).sum) M X.hZ w4 w3 hf hl) (by show 2 * 0 + _ ≤ _; rw [Nat.mul_zero, Nat.zero_add]; exact Nat.le_refl _) (fun vm₁ _ => ⟨rfl, X.eT, hc, hs⟩)
  dsimp only [Pt.U, Pt.locs, Pt.cells, Pt.slots] at Y l1 l2 l3 st1 q2 q3 q4 q1
  subst l1 l2 l3
  exact Ends.go st1 (k _ _ _ (X.keep Y rfl q3 Sf q2 hz hk) q3 q1)
theorem Wk.callP (X : Wk co Z a0 EL own bytes maxL ret nm ws p l e R s m args below meth c vm0 T h locs cells slots) {len : Nat} {y : MethodName} {ybytes : ByteArray} {ymaxL : Nat} {yret : Option FieldType} {rm : Room} {a : Array Value} {Q : Value → Prop} {st : List Value} (S : Site p l e R (s.setVm vm0) m args below meth c T locs cells slots (mkF m pc ls st) len y a rest) (M : MN l Z y ybytes ymaxL yret [] rm a h [] (RP h Q)) (w4 : (Cond.code y ybytes ymaxL yret).before a0 Z = true) (w3 : (Cond.initialized y.cls).before a0 Z = true) (hf : rm.frames + 1 ≤ R.frames) (hl : (rest.map fun v => v.category).sum + (ymaxL + 11) + rm.locals ≤ R.locals) (hc : cells + rm.cells ≤ R.cells) (hs : slots + rm.slots ≤ R.slots) (hp : pc + len = pc') (k : ∀ T L (v : Value), Wk co Z a0 EL own bytes maxL ret nm ws p l e R s m args below meth c vm0 T h L (cells + rm.cells) (slots + rm.slots) → Q v → Ends p e below G (T.setTop (mkF m pc' ls (v :: rest)))) : Ends p e below G (T.setTop (mkF m pc ls st)) := by
  subst hp
  obtain ⟨v, vm₁, ⟨T', L', k', n'⟩, h1, Y, ⟨Lc, ⟨⟨w, rfl, e1, q1⟩, q2, q3, q4⟩, l1, l2, l3⟩, st1⟩ := S.1 (backOf (Q := fun v h' L => (RP h Q) v h' ∧ Fr Z.heap.size L ∧ Keep h h' [] ∧ Ext Z.heap h') (W := (rest.map fun v => v.category).sum) M X.hZ w4 w3 hf hl) (by show 2 * 0 + _ ≤ _; rw [Nat.mul_zero, Nat.zero_add]; exact Nat.le_refl _) (fun vm₁ _ => ⟨rfl, X.eT, hc, hs⟩)
  dsimp only [Pt.U, Pt.locs, Pt.cells, Pt.slots] at Y l1 l2 l3 st1 q2 q3 q4 e1
  subst l1 l2 l3
  exact Ends.go st1 (k _ _ _ (by have W := X.keep Y rfl q3 sf0 q2 all0 all0; rw [e1] at W; exact W) q1)
theorem Wk.callO (X : Wk co Z a0 EL own bytes maxL ret nm ws p l e R s m args below meth c vm0 T h locs cells slots) {len : Nat} {y : MethodName} {ybytes : ByteArray} {ymaxL : Nat} {yret : Option FieldType} {rm : Room} {a : Array Value}  {st : List Value} (S : Site p l e R (s.setVm vm0) m args below meth c T locs cells slots (mkF m pc ls st) len y a rest) (M : MN l Z y ybytes ymaxL yret [] rm a h [] (RO h)) (w4 : (Cond.code y ybytes ymaxL yret).before a0 Z = true) (w3 : (Cond.initialized y.cls).before a0 Z = true) (hf : rm.frames + 1 ≤ R.frames) (hl : (rest.map fun v => v.category).sum + (ymaxL + 11) + rm.locals ≤ R.locals) (hc : cells + rm.cells ≤ R.cells) (hs : slots + rm.slots ≤ R.slots) (hp : pc + len = pc') (k : ∀ T L, Wk co Z a0 EL own bytes maxL ret nm ws p l e R s m args below meth c vm0 T h L (cells + rm.cells) (slots + rm.slots) → Ends p e below G (T.setTop (mkF m pc' ls rest))) : Ends p e below G (T.setTop (mkF m pc ls st)) := by
  subst hp
  obtain ⟨v, vm₁, ⟨T', L', k', n'⟩, h1, Y, ⟨Lc, ⟨⟨rfl, e1⟩, q2, q3, q4⟩, l1, l2, l3⟩, st1⟩ := S.1 (backOf (Q := fun v h' L => (RO h) v h' ∧ Fr Z.heap.size L ∧ Keep h h' [] ∧ Ext Z.heap h') (W := (rest.map fun v => v.category).sum) M X.hZ w4 w3 hf hl) (by show 2 * 0 + _ ≤ _; rw [Nat.mul_zero, Nat.zero_add]; exact Nat.le_refl _) (fun vm₁ _ => ⟨rfl, X.eT, hc, hs⟩)
  dsimp only [Pt.U, Pt.locs, Pt.cells, Pt.slots] at Y l1 l2 l3 st1 q2 q3 q4 e1
  subst l1 l2 l3
  exact Ends.go st1 (k _ _ (by have W := X.keep Y rfl q3 sf0 q2 all0 all0; rw [e1] at W; exact W))
theorem Wk.coldV (X : Wk true Z a0 EL own bytes maxL ret nm ws p l e R s m args below meth c vm0 T h locs cells slots) {len : Nat} {y : MethodName} {ybytes : ByteArray} {ymaxL : Nat} {yret : Option FieldType} {rm : Room} {a : Array Value} {wc : List Addr} {Q : Value → Heap → Prop} {st : List Value} (S : Site p l e R (s.setVm vm0) m args below meth c T locs cells slots (mkF m pc ls st) len y a rest) (M : MCc l Z EL y ybytes ymaxL yret [] rm a h wc (RV Q)) (w4 : (Cond.code y ybytes ymaxL yret).before a0 Z = true) (w3 : (Cond.initialized y.cls).before a0 Z = true) (hf : rm.frames + 1 ≤ R.frames) (hl : (rest.map fun v => v.category).sum + (ymaxL + 11) + rm.locals ≤ R.locals) (hc : cells + rm.cells ≤ R.cells) (hs : slots + rm.slots ≤ R.slots) (hk : ∀ x ∈ wc, x ∈ ws ∨ s.heap.size ≤ x) (hp : pc + len = pc') (k : ∀ T vm h' L (v : Value), Wk true Z a0 EL own bytes maxL ret nm ws p l e R s m args below meth c vm T h' L (cells + rm.cells) (slots + rm.slots) → Keep h h' wc → CHr Z EL vm0 h vm h' → Q v h' → Ends p e below G (T.setTop (mkF m pc' ls (v :: rest)))) : Ends p e below G (T.setTop (mkF m pc ls st)) := by
  subst hp
  obtain ⟨v, vm₁, ⟨T', L', k', n'⟩, h1, Y, hS, hgr, ⟨Lc, ⟨⟨w, rfl, q1⟩, q2, q3, q4⟩, l1, l2, l3, hC⟩, st1⟩ := S.2 (backOfSH (s := s) (Q := fun v h' L => (RV Q) v h' ∧ Fr Z.heap.size L ∧ Keep h h' wc ∧ Ext Z.heap h') (W := (rest.map fun v => v.category).sum) M X.hZ w4 w3 hf hl X.ew X.H) (by show 2 * 0 + _ ≤ _; rw [Nat.mul_zero, Nat.zero_add]; exact Nat.le_refl _) (fun vm₁ _ => ⟨rfl, X.eT, hc, hs⟩)
  dsimp only [Pt.U, Pt.locs, Pt.cells, Pt.slots] at Y l1 l2 l3 st1 q1 q2 q3 q4 hS hC
  subst l1 l2 l3
  exact Ends.go st1 (k _ _ _ _ _ (X.cold Y hS hC q3 q2 q4 hk) q3 hC q1)
theorem Wk.coldU (X : Wk true Z a0 EL own bytes maxL ret nm ws p l e R s m args below meth c vm0 T h locs cells slots) {len : Nat} {y : MethodName} {ybytes : ByteArray} {ymaxL : Nat} {yret : Option FieldType} {rm : Room} {a : Array Value} {wc : List Addr} {Q : Heap → Prop} {st : List Value} (S : Site p l e R (s.setVm vm0) m args below meth c T locs cells slots (mkF m pc ls st) len y a rest) (M : MCc l Z EL y ybytes ymaxL yret [] rm a h wc (RU Q)) (w4 : (Cond.code y ybytes ymaxL yret).before a0 Z = true) (w3 : (Cond.initialized y.cls).before a0 Z = true) (hf : rm.frames + 1 ≤ R.frames) (hl : (rest.map fun v => v.category).sum + (ymaxL + 11) + rm.locals ≤ R.locals) (hc : cells + rm.cells ≤ R.cells) (hs : slots + rm.slots ≤ R.slots) (hk : ∀ x ∈ wc, x ∈ ws ∨ s.heap.size ≤ x) (hp : pc + len = pc') (k : ∀ T vm h' L, Wk true Z a0 EL own bytes maxL ret nm ws p l e R s m args below meth c vm T h' L (cells + rm.cells) (slots + rm.slots) → Keep h h' wc → CHr Z EL vm0 h vm h' → Q h' → Ends p e below G (T.setTop (mkF m pc' ls rest))) : Ends p e below G (T.setTop (mkF m pc ls st)) := by
  subst hp
  obtain ⟨v, vm₁, ⟨T', L', k', n'⟩, h1, Y, hS, hgr, ⟨Lc, ⟨⟨rfl, q1⟩, q2, q3, q4⟩, l1, l2, l3, hC⟩, st1⟩ := S.2 (backOfSH (s := s) (Q := fun v h' L => (RU Q) v h' ∧ Fr Z.heap.size L ∧ Keep h h' wc ∧ Ext Z.heap h') (W := (rest.map fun v => v.category).sum) M X.hZ w4 w3 hf hl X.ew X.H) (by show 2 * 0 + _ ≤ _; rw [Nat.mul_zero, Nat.zero_add]; exact Nat.le_refl _) (fun vm₁ _ => ⟨rfl, X.eT, hc, hs⟩)
  dsimp only [Pt.U, Pt.locs, Pt.cells, Pt.slots] at Y l1 l2 l3 st1 q1 q2 q3 q4 hS hC
  subst l1 l2 l3
  exact Ends.go st1 (k _ _ _ _ (X.cold Y hS hC q3 q2 q4 hk) q3 hC q1)
end Ends2
end Jvm.Pilot.@@N@@.Y
namespace Jvm.Pilot.@@N@@.Y
open Jvm Jvm.ClassFile Sem Op Lib Jvm.Free Jvm.Stand Jvm.LawKit Jvm.RoadKit Bundle
section Str
variable {co : Bool} {Z : State} {a0 : Array Value} {EL : List (String × Nat)} {own : String} {bytes : ByteArray} {maxL : Nat} {ret : Option FieldType} {nm : String} {ws : List Addr} {p : Program} {l : Launch} {e : Env} {R : Room} {s : State} {m : MethodId} {args : Array Value} {below : List Frame} {meth : Method} {c : Code} {vm0 : Vm} {T : State} {h h' : Heap} {locs : List Loc} {cells slots : Nat} {G : Outcome → State → Prop} {pc pc' : Nat} {ls : Array Slot} {rest : List Value} {Q : Option Value → Heap → Prop}
/-- x is a String that spells cs -/
def Str (Z : State) (h : Heap) (x : Addr) (cs : List Int32) : Prop := ∃ (t : Addr) (kb : ClassId) (cd N : Int32) (vs : List Value), Exa Z h x "java/lang/String" ∧ Fld Z h x "java/lang/String" "value" "[B" (.ref t) ∧ Fld Z h x "java/lang/String" "coder" "B" (.int cd) ∧ Arv Z h t kb .byte N vs (.int 0) ∧ StrChars.Road.CodA cs cd N vs ∧ (∀ c ∈ cs, ¬ c < 0 ∧ ¬ (65535 : Int32) < c) ∧ cs.length ≤ 4000
theorem Str.exa {x : Addr} {cs : List Int32} (S : Str Z h x cs) : Exa Z h x "java/lang/String" := by obtain ⟨_, _, _, _, _, E, -⟩ := S; exact E
theorem Str.lt {x : Addr} {cs : List Int32} (S : Str Z h x cs) : x < h.size := S.exa.lt
theorem Str.ext {x : Addr} {cs : List Int32} (S : Str Z h x cs) (E : Ext h h') : Str Z h' x cs := by
  obtain ⟨t, kb, cd, N, vs, s1, s2, s3, s4, r⟩ := S; exact ⟨t, kb, cd, N, vs, s1.ext E, s2.ext E, s3.ext E, s4.ext E, r⟩
theorem Str.keep0 {x : Addr} {cs : List Int32} (S : Str Z h x cs) (K : Keep h h' []) : Str Z h' x cs := by
  obtain ⟨t, kb, cd, N, vs, s1, s2, s3, s4, r⟩ := S; exact ⟨t, kb, cd, N, vs, s1.keep K, s2.keep K nin0, s3.keep K nin0, s4.keep K nin0, r⟩
/-- a is an object, no array -/
def Obj (Z : State) (h : Heap) (a : Addr) : Prop := ∃ (C : String) (k : Nat) (a0 : Array Value), Exa Z h a C ∧ (Cond.instantiable C k).before a0 Z = true
theorem obj {C : String} {k : Nat} {a : Addr} (E : Exa Z h a C) (w : (Cond.instantiable C k).before a0 Z = true) : Obj Z h a := ⟨C, k, a0, E, w⟩
theorem Obj.ne {a b : Addr} {k : ClassId} {ty : FieldType} {z : Int32} {vs : List Value} {d : Value} (O : Obj Z h a) (A : Arv Z h b k ty z vs d) : b ≠ a := by
  obtain ⟨C, n, a0, E, w⟩ := O; exact Ne.symm (Exa.neArv E A w)
theorem arv_ty {a b : Addr} {k1 k2 : ClassId} {t1 t2 : FieldType} {z1 z2 : Int32} {v1 v2 : List Value} {d1 d2 : Value} (A : Arv Z h a k1 t1 z1 v1 d1) (B : Arv Z h b k2 t2 z2 v2 d2) (q : t1 ≠ t2) : a ≠ b := fun e => by
  subst e
  obtain ⟨c1, ⟨a1, ⟨-, kA, hkA, compA, hkindA⟩, -⟩, -⟩ := A
  obtain ⟨c2, ⟨b1, ⟨-, kB, hkB, compB, hkindB⟩, -⟩, -⟩ := B
  cases a1.symm.trans b1
  cases hkA.symm.trans hkB
  have := hkindA.symm.trans hkindB
  injection this with _ e
  exact q e
theorem Str.keep1 {x a : Addr} {cs : List Int32} (S : Str Z h x cs) (K : Keep h h' [a]) (ne : x ≠ a) (O : Obj Z h a) : Str Z h' x cs := by
  obtain ⟨t, kb, cd, N, vs, s1, s2, s3, s4, r⟩ := S
  exact ⟨t, kb, cd, N, vs, s1.keep K, s2.keep K (ninS ne nin0), s3.keep K (ninS ne nin0), s4.keep K (ninS (O.ne s4) nin0), r⟩
theorem Str.keep2 {x a b : Addr} {cs : List Int32} {k : ClassId} {ty : FieldType} {z : Int32} {vs' : List Value} {d : Value} (S : Str Z h x cs) (K : Keep h h' [a, b]) (ne : x ≠ a) (O : Obj Z h a) (ne' : x ≠ b) (B : Arv Z h b k ty z vs' d ∧ ty ≠ .byte) : Str Z h' x cs := by
  obtain ⟨t, kb, cd, N, vs, s1, s2, s3, s4, r⟩ := S
  exact ⟨t, kb, cd, N, vs, s1.keep K, s2.keep K (ninS ne (ninS ne' nin0)), s3.keep K (ninS ne (ninS ne' nin0)), s4.keep K (ninS (O.ne s4) (ninS (Ne.symm (arv_ty B.1 s4 B.2)) nin0)), r⟩
theorem Str.wrA {x a : Addr} {cs : List Int32} {k : ClassId} {ty : FieldType} {z : Int32} {vs' : List Value} {d v : Value} {sl n : Nat} (S : Str Z h x cs) (W : Wr h h' a sl v) (A : Arv Z h a k ty z vs' d) (q : ty ≠ .byte) (wi : (Cond.instantiable "java/lang/String" n).before a0 Z = true) : Str Z h' x cs := by
  obtain ⟨t, kb, cd, N, vs, s1, s2, s3, s4, r⟩ := S
  have n1 : x ≠ a := Exa.neArv s1 A wi
  have n2 : t ≠ a := Ne.symm (arv_ty A s4 q)
  exact ⟨t, kb, cd, N, vs, s1.wr W, s2.other W (Or.inl n1), s3.other W (Or.inl n1), s4.other W n2, r⟩
theorem chr255 {x c : Int32} (q : (x &&& (255 : Int32)).toUInt32.toUInt16.toUInt32.toInt32 = c) : (¬ c < 0 ∧ ¬ (255 : Int32) < c) ∧ nar .char c = c := by
  rw [i2c_mask] at q
  have h1 := c_and x 255 (by decide)
  rw [q] at h1
  have e255 : (255 : Int32).toInt = 255 := rfl
  refine ⟨⟨fun z => ?_, fun z => ?_⟩, ?_⟩
  · rw [Int32.lt_iff_toInt_lt] at z; have : (0 : Int32).toInt = 0 := rfl; omega
  · rw [Int32.lt_iff_toInt_lt] at z; omega
  · show c.toUInt32.toUInt16.toUInt32.toInt32 = c
    rw [← q]; exact i2c_mask x
theorem narB (x : Int32) : nar .byte (x.toInt8.toInt32) = x.toInt8.toInt32 := by
  show x.toInt8.toInt32.toInt8.toInt32 = x.toInt8.toInt32
  rw [Int8.toInt8_toInt32]
theorem up16 {cs : List Int32} (h : ∀ c ∈ cs, ¬ c < 0 ∧ ¬ (255 : Int32) < c) : ∀ c ∈ cs, ¬ c < 0 ∧ ¬ (65535 : Int32) < c := fun c hc => ⟨(h c hc).1, fun q => (h c hc).2 (by rw [Int32.lt_iff_toInt_lt] at q ⊢; have e1 : (65535 : Int32).toInt = 65535 := rfl; have e2 : (255 : Int32).toInt = 255 := rfl; omega)⟩
theorem all1 {P : Int32 → Prop} {c : Int32} (h : P c) : ∀ d ∈ [c], P d := fun d hd => by cases List.mem_singleton.mp hd; exact h
theorem allC {P : Int32 → Prop} {c : Int32} {cs : List Int32} (h : P c) (r : ∀ d ∈ cs, P d) : ∀ d ∈ c :: cs, P d := fun d hd => by
  rcases List.mem_cons.mp hd with rfl | hd
  · exact h
  · exact r d hd
theorem allN {P : Int32 → Prop} : ∀ d ∈ ([] : List Int32), P d := fun d hd => nomatch hd
theorem eqI_v {args : Array Value} {t : Term} {v : Int32} (h : (Cond.eq t (.int v)).value args Z none Z [] = some true) : t.eval args Z none [] Z = some (.int v) := by
  obtain ⟨x, y, e1, e2, -, k2⟩ := cmp_v (Or.inl h)
  have e3 : (Term.int v).eval args Z none [] Z = some (.int v) := Term.int_eval v
  cases e2.symm.trans e3
  obtain ⟨z, rfl⟩ := k2
  have := gotT (Cond.eq_ints e1 e3) h
  rw [e1, this]
theorem noInst {C K : String} {n : Nat} (w : (Cond.superclass C "java/lang/Object").before a0 Z = true) (wo : (Cond.noSuperclass "java/lang/Object").before a0 Z = true) (wk : (Cond.instantiable K n).before a0 Z = true) (q1 : C ≠ K) (q2 : "java/lang/Object" ≠ K) : ∃ c t, Z.vm.findClass C = some c ∧ Z.vm.findClass K = some t ∧ Z.vm.assignable c t = false := by
  obtain ⟨t, kt, g0, g2, g5, g6, -⟩ := Cond.instantiable_spec wk
  have g7 : kt.isInterface = false := (Bool.or_eq_false_iff.mp g6).1
  obtain ⟨co, ko, o1, o2, o3, -, -⟩ := Cond.noSuperclass_spec wo
  have nO : NS Z "java/lang/Object" K := by
    have ne := ids_ne o1 g0 q2
    refine ⟨co, t, o1, g0, fun fuel => ?_⟩
    cases fuel with
    | zero => rfl
    | succ f => simp [Vm.isSubclassAux, ne, o2, o3]
  obtain ⟨c, t', h0, g0', n3⟩ := NS.step w nO q1
  cases g0.symm.trans g0'
  obtain ⟨p, k, kp, h1, h2, h3, h4, h5, -, h7⟩ := Cond.superclass_spec h0 w
  have ne := ids_ne h0 g0 q1
  refine ⟨c, t, h0, g0, ?_⟩
  show Z.vm.assignableAux (255 + 1) c t = false
  simp [Vm.assignableAux, ne, h2, g2, h5, g5, g7, Vm.isSubclass, n3]
/-- new String(chars): one to 4,000 chars, each 0 to 255 -/
theorem Wk.newStr (X : Wk co Z a0 EL own bytes maxL ret nm ws p l e R s m args below meth c vm0 T h locs cells slots) {st : List Value} {x b : Addr} {kC : ClassId} {cs : List Int32} {d c0 : Value} {z N : Int32} {n : Nat} (S : Site p l e R (s.setVm vm0) m args below meth c T locs cells slots (mkF m pc ls st) 3 (⟨"java/lang/String", "<init>", "([C)V"⟩ : MethodName) #[.ref x, .ref b] rest) (hws : ∀ d ∈ StrChars.Road.words, d.before a0 Z = true) {kI : Nat} (wi : (Cond.instantiable "java/lang/String" kI).before a0 Z = true) (Ex : Exa Z h x "java/lang/String") (V : Fld Z h x "java/lang/String" "value" "[B" .null) (C : Fld Z h x "java/lang/String" "coder" "B" c0) (K : Arv Z h b kC .char N (cs.map Value.int) d) (O2 : Sta Z Z.heap "java/lang/String" "COMPACT_STRINGS" "Z" (.int z)) (hz : ¬ z = 0) (hn : cs.length = n) (hN : N = Int32.ofNat n) (l0 : 0 < n) (l2 : n ≤ 4000) (hp : ∀ c ∈ cs, ¬ c < 0 ∧ ¬ (255 : Int32) < c) (hfr : 4 ≤ R.frames) (hlo : (rest.map fun v => v.category).sum + 65 ≤ R.locals) (hc : cells + 1 ≤ R.cells) (hs : slots + n ≤ R.slots) (zx : Z.heap.size ≤ x) (hk : x ∈ ws ∨ s.heap.size ≤ x) (hpc : pc + 3 = pc') (k : ∀ T h' L, Wk co Z a0 EL own bytes maxL ret nm ws p l e R s m args below meth c vm0 T h' L (cells + 1) (slots + n) → Keep h h' [x] → Str Z h' x cs → Ends p e below G (T.setTop (mkF m pc' ls rest))) : Ends p e below G (T.setTop (mkF m pc ls st)) := by
  subst hpc
  obtain ⟨v, vm₁, ⟨T', L', k', n'⟩, h1, Y, ⟨Lc, ⟨rfl, q2, q3, q4, q5, t, kb, -, -, -, q6, q7⟩, l1, l3, l4⟩, st1⟩ := S.1 (StrChars.Road.backV (W := (rest.map fun v => v.category).sum) X.hZ hws wi (n0 := Z.heap.size) zx X.old.1 Ex V C K (O2.ext X.old) hz hn hN l0 l2 hp rfl hfr hlo) (by show 2 * 0 + _ ≤ _; rw [Nat.mul_zero, Nat.zero_add]; exact Nat.le_refl _) (fun vm₁ _ => ⟨rfl, X.eT, hc, hs⟩)
  dsimp only [Pt.U, Pt.locs, Pt.cells, Pt.slots] at Y l1 l3 l4 st1 q2 q3 q4 q5 q6 q7
  subst l1 l3 l4
  have hcod : StrChars.Road.CodA cs 0 N ((cs.map fun c => c.toInt8.toInt32).map Value.int) := by rw [hN]; exact StrChars.Road.codOf hn fun c hc => (hp c hc).2
  exact Ends.go st1 (k _ _ _ (X.keep Y rfl q3 (sfS (Safe.blank X.al Ex wi V) sf0) q2 (allS zx all0) (allS hk all0)) q3 ⟨t, kb, 0, N, _, q4, q6, q5, q7, hcod, up16 hp, by omega⟩)
end Str
end Jvm.Pilot.@@N@@.Y
namespace Jvm.Pilot.@@N@@
open Jvm Jvm.ClassFile Sem Op Lib Jvm.Free Jvm.Stand Jvm.LawKit Jvm.RoadKit Bundle Y Jvm.Pilot.@@N@@.Jvm.D
theorem d3_0 : decode jdk_42_method_149_code 0 = .ok (.aload_n 0, 1) := by decide +kernel
theorem d3_1 : decode jdk_42_method_149_code 1 = .ok (.invokespecial 1, 3) := by decide +kernel
theorem d3_4 : decode jdk_42_method_149_code 4 = .ok (.iload_n 3, 1) := by decide +kernel
theorem d3_5 : decode jdk_42_method_149_code 5 = .ok (.ifCond .ne 22, 3) := by decide +kernel
theorem d3_8 : decode jdk_42_method_149_code 8 = .ok (.aload_n 0, 1) := by decide +kernel
theorem d3_9 : decode jdk_42_method_149_code 9 = .ok (.ldc 7, 2) := by decide +kernel
theorem d3_11 : decode jdk_42_method_149_code 11 = .ok (.getfield 9, 3) := by decide +kernel
theorem d3_14 : decode jdk_42_method_149_code 14 = .ok (.putfield 9, 3) := by decide +kernel
theorem d3_17 : decode jdk_42_method_149_code 17 = .ok (.aload_n 0, 1) := by decide +kernel
theorem d3_18 : decode jdk_42_method_149_code 18 = .ok (.ldc 7, 2) := by decide +kernel
theorem d3_20 : decode jdk_42_method_149_code 20 = .ok (.getfield 15, 3) := by decide +kernel
theorem d3_23 : decode jdk_42_method_149_code 23 = .ok (.putfield 15, 3) := by decide +kernel
theorem d3_26 : decode jdk_42_method_149_code 26 = .ok (.return_, 1) := by decide +kernel
theorem d2_0 : decode jdk_42_method_3_code 0 = .ok (.aload_n 0, 1) := by decide +kernel
theorem d2_1 : decode jdk_42_method_3_code 1 = .ok (.aload_n 1, 1) := by decide +kernel
theorem d2_2 : decode jdk_42_method_3_code 2 = .ok (.iconst 0, 1) := by decide +kernel
theorem d2_3 : decode jdk_42_method_3_code 3 = .ok (.aload_n 1, 1) := by decide +kernel
theorem d2_4 : decode jdk_42_method_3_code 4 = .ok (.arraylength, 1) := by decide +kernel
theorem d2_5 : decode jdk_42_method_3_code 5 = .ok (.aconst_null, 1) := by decide +kernel
theorem d2_6 : decode jdk_42_method_3_code 6 = .ok (.invokespecial 27, 3) := by decide +kernel
theorem d2_9 : decode jdk_42_method_3_code 9 = .ok (.return_, 1) := by decide +kernel
theorem d1_0 : decode method_2_code 0 = .ok (.iload_n 0, 1) := by decide +kernel
theorem d1_1 : decode method_2_code 1 = .ok (.bipush 16, 2) := by decide +kernel
theorem d1_3 : decode method_2_code 3 = .ok (.iushr, 1) := by decide +kernel
theorem d1_4 : decode method_2_code 4 = .ok (.iconst 3, 1) := by decide +kernel
theorem d1_5 : decode method_2_code 5 = .ok (.iand, 1) := by decide +kernel
theorem d1_6 : decode method_2_code 6 = .ok (.istore_n 1, 1) := by decide +kernel
theorem d1_7 : decode method_2_code 7 = .ok (.iload_n 0, 1) := by decide +kernel
theorem d1_8 : decode method_2_code 8 = .ok (.sipush 255, 3) := by decide +kernel
theorem d1_11 : decode method_2_code 11 = .ok (.iand, 1) := by decide +kernel
theorem d1_12 : decode method_2_code 12 = .ok (.i2c, 1) := by decide +kernel
theorem d1_13 : decode method_2_code 13 = .ok (.istore_n 2, 1) := by decide +kernel
theorem d1_14 : decode method_2_code 14 = .ok (.iload_n 0, 1) := by decide +kernel
theorem d1_15 : decode method_2_code 15 = .ok (.bipush 8, 2) := by decide +kernel
theorem d1_17 : decode method_2_code 17 = .ok (.iushr, 1) := by decide +kernel
theorem d1_18 : decode method_2_code 18 = .ok (.sipush 255, 3) := by decide +kernel
theorem d1_21 : decode method_2_code 21 = .ok (.iand, 1) := by decide +kernel
theorem d1_22 : decode method_2_code 22 = .ok (.i2c, 1) := by decide +kernel
theorem d1_23 : decode method_2_code 23 = .ok (.istore_n 3, 1) := by decide +kernel
theorem d1_24 : decode method_2_code 24 = .ok (.iload_n 1, 1) := by decide +kernel
theorem d1_25 : decode method_2_code 25 = .ok (.ifCond .ne 14, 3) := by decide +kernel
theorem d1_28 : decode method_2_code 28 = .ok (.new 7, 3) := by decide +kernel
theorem d1_31 : decode method_2_code 31 = .ok (.dup, 1) := by decide +kernel
theorem d1_32 : decode method_2_code 32 = .ok (.iconst 0, 1) := by decide +kernel
theorem d1_33 : decode method_2_code 33 = .ok (.newarray .char, 2) := by decide +kernel
theorem d1_35 : decode method_2_code 35 = .ok (.invokespecial 9, 3) := by decide +kernel
theorem d1_38 : decode method_2_code 38 = .ok (.areturn, 1) := by decide +kernel
theorem d1_39 : decode method_2_code 39 = .ok (.iload_n 1, 1) := by decide +kernel
theorem d1_40 : decode method_2_code 40 = .ok (.iconst 1, 1) := by decide +kernel
theorem d1_41 : decode method_2_code 41 = .ok (.if_icmp .ne 23, 3) := by decide +kernel
theorem d1_44 : decode method_2_code 44 = .ok (.iconst 1, 1) := by decide +kernel
theorem d1_45 : decode method_2_code 45 = .ok (.newarray .char, 2) := by decide +kernel
theorem d1_47 : decode method_2_code 47 = .ok (.astore 4, 2) := by decide +kernel
theorem d1_49 : decode method_2_code 49 = .ok (.aload 4, 2) := by decide +kernel
theorem d1_51 : decode method_2_code 51 = .ok (.iconst 0, 1) := by decide +kernel
theorem d1_52 : decode method_2_code 52 = .ok (.iload_n 2, 1) := by decide +kernel
theorem d1_53 : decode method_2_code 53 = .ok (.castore, 1) := by decide +kernel
theorem d1_54 : decode method_2_code 54 = .ok (.new 7, 3) := by decide +kernel
theorem d1_57 : decode method_2_code 57 = .ok (.dup, 1) := by decide +kernel
theorem d1_58 : decode method_2_code 58 = .ok (.aload 4, 2) := by decide +kernel
theorem d1_60 : decode method_2_code 60 = .ok (.invokespecial 9, 3) := by decide +kernel
theorem d1_63 : decode method_2_code 63 = .ok (.areturn, 1) := by decide +kernel
theorem d1_64 : decode method_2_code 64 = .ok (.iconst 2, 1) := by decide +kernel
theorem d1_65 : decode method_2_code 65 = .ok (.newarray .char, 2) := by decide +kernel
theorem d1_67 : decode method_2_code 67 = .ok (.astore 4, 2) := by decide +kernel
theorem d1_69 : decode method_2_code 69 = .ok (.aload 4, 2) := by decide +kernel
theorem d1_71 : decode method_2_code 71 = .ok (.iconst 0, 1) := by decide +kernel
theorem d1_72 : decode method_2_code 72 = .ok (.iload_n 2, 1) := by decide +kernel
theorem d1_73 : decode method_2_code 73 = .ok (.castore, 1) := by decide +kernel
theorem d1_74 : decode method_2_code 74 = .ok (.aload 4, 2) := by decide +kernel
theorem d1_76 : decode method_2_code 76 = .ok (.iconst 1, 1) := by decide +kernel
theorem d1_77 : decode method_2_code 77 = .ok (.iload_n 3, 1) := by decide +kernel
theorem d1_78 : decode method_2_code 78 = .ok (.castore, 1) := by decide +kernel
theorem d1_79 : decode method_2_code 79 = .ok (.new 7, 3) := by decide +kernel
theorem d1_82 : decode method_2_code 82 = .ok (.dup, 1) := by decide +kernel
theorem d1_83 : decode method_2_code 83 = .ok (.aload 4, 2) := by decide +kernel
theorem d1_85 : decode method_2_code 85 = .ok (.invokespecial 9, 3) := by decide +kernel
theorem d1_88 : decode method_2_code 88 = .ok (.areturn, 1) := by decide +kernel
theorem d6_0 : decode jdk_30_method_1_code 0 = .ok (.aload_n 0, 1) := by decide +kernel
theorem d6_1 : decode jdk_30_method_1_code 1 = .ok (.invokespecial 1, 3) := by decide +kernel
theorem d6_4 : decode jdk_30_method_1_code 4 = .ok (.return_, 1) := by decide +kernel
theorem d5_0 : decode prog_21_method_1_code 0 = .ok (.aload_n 0, 1) := by decide +kernel
theorem d5_1 : decode prog_21_method_1_code 1 = .ok (.invokespecial 1, 3) := by decide +kernel
theorem d5_4 : decode prog_21_method_1_code 4 = .ok (.aload_n 0, 1) := by decide +kernel
theorem d5_5 : decode prog_21_method_1_code 5 = .ok (.aload_n 1, 1) := by decide +kernel
theorem d5_6 : decode prog_21_method_1_code 6 = .ok (.putfield 7, 3) := by decide +kernel
theorem d5_9 : decode prog_21_method_1_code 9 = .ok (.aload_n 0, 1) := by decide +kernel
theorem d5_10 : decode prog_21_method_1_code 10 = .ok (.aload_n 2, 1) := by decide +kernel
theorem d5_11 : decode prog_21_method_1_code 11 = .ok (.putfield 13, 3) := by decide +kernel
theorem d5_14 : decode prog_21_method_1_code 14 = .ok (.aload_n 0, 1) := by decide +kernel
theorem d5_15 : decode prog_21_method_1_code 15 = .ok (.aload_n 3, 1) := by decide +kernel
theorem d5_16 : decode prog_21_method_1_code 16 = .ok (.putfield 16, 3) := by decide +kernel
theorem d5_19 : decode prog_21_method_1_code 19 = .ok (.aload_n 0, 1) := by decide +kernel
theorem d5_20 : decode prog_21_method_1_code 20 = .ok (.iload 4, 2) := by decide +kernel
theorem d5_22 : decode prog_21_method_1_code 22 = .ok (.putfield 19, 3) := by decide +kernel
theorem d5_25 : decode prog_21_method_1_code 25 = .ok (.aload_n 0, 1) := by decide +kernel
theorem d5_26 : decode prog_21_method_1_code 26 = .ok (.iload 5, 2) := by decide +kernel
theorem d5_28 : decode prog_21_method_1_code 28 = .ok (.putfield 23, 3) := by decide +kernel
theorem d5_31 : decode prog_21_method_1_code 31 = .ok (.aload_n 0, 1) := by decide +kernel
theorem d5_32 : decode prog_21_method_1_code 32 = .ok (.aload 6, 2) := by decide +kernel
theorem d5_34 : decode prog_21_method_1_code 34 = .ok (.putfield 26, 3) := by decide +kernel
theorem d5_37 : decode prog_21_method_1_code 37 = .ok (.return_, 1) := by decide +kernel
theorem d7_0 : decode prog_21_method_7_code 0 = .ok (.new 8, 3) := by decide +kernel
theorem d7_3 : decode prog_21_method_7_code 3 = .ok (.dup, 1) := by decide +kernel
theorem d7_4 : decode prog_21_method_7_code 4 = .ok (.aload_n 0, 1) := by decide +kernel
theorem d7_5 : decode prog_21_method_7_code 5 = .ok (.getfield 7, 3) := by decide +kernel
theorem d7_8 : decode prog_21_method_7_code 8 = .ok (.aload_n 0, 1) := by decide +kernel
theorem d7_9 : decode prog_21_method_7_code 9 = .ok (.getfield 13, 3) := by decide +kernel
theorem d7_12 : decode prog_21_method_7_code 12 = .ok (.aload_n 0, 1) := by decide +kernel
theorem d7_13 : decode prog_21_method_7_code 13 = .ok (.getfield 16, 3) := by decide +kernel
theorem d7_16 : decode prog_21_method_7_code 16 = .ok (.aload_n 0, 1) := by decide +kernel
theorem d7_17 : decode prog_21_method_7_code 17 = .ok (.getfield 19, 3) := by decide +kernel
theorem d7_20 : decode prog_21_method_7_code 20 = .ok (.iconst 1, 1) := by decide +kernel
theorem d7_21 : decode prog_21_method_7_code 21 = .ok (.aload_n 0, 1) := by decide +kernel
theorem d7_22 : decode prog_21_method_7_code 22 = .ok (.getfield 26, 3) := by decide +kernel
theorem d7_25 : decode prog_21_method_7_code 25 = .ok (.invokespecial 29, 3) := by decide +kernel
theorem d7_28 : decode prog_21_method_7_code 28 = .ok (.areturn, 1) := by decide +kernel
theorem d10_0 : decode prog_21_method_11_code 0 = .ok (.aload_n 0, 1) := by decide +kernel
theorem d10_1 : decode prog_21_method_11_code 1 = .ok (.getfield 7, 3) := by decide +kernel
theorem d10_4 : decode prog_21_method_11_code 4 = .ok (.areturn, 1) := by decide +kernel
theorem d11_0 : decode prog_21_method_12_code 0 = .ok (.aload_n 0, 1) := by decide +kernel
theorem d11_1 : decode prog_21_method_12_code 1 = .ok (.getfield 13, 3) := by decide +kernel
theorem d11_4 : decode prog_21_method_12_code 4 = .ok (.areturn, 1) := by decide +kernel
theorem d8_0 : decode prog_21_method_13_code 0 = .ok (.aload_n 0, 1) := by decide +kernel
theorem d8_1 : decode prog_21_method_13_code 1 = .ok (.getfield 16, 3) := by decide +kernel
theorem d8_4 : decode prog_21_method_13_code 4 = .ok (.areturn, 1) := by decide +kernel
theorem d14_0 : decode prog_21_method_16_code 0 = .ok (.aload_n 0, 1) := by decide +kernel
theorem d14_1 : decode prog_21_method_16_code 1 = .ok (.getfield 26, 3) := by decide +kernel
theorem d14_4 : decode prog_21_method_16_code 4 = .ok (.areturn, 1) := by decide +kernel
theorem d12_0 : decode prog_21_method_14_code 0 = .ok (.aload_n 0, 1) := by decide +kernel
theorem d12_1 : decode prog_21_method_14_code 1 = .ok (.getfield 19, 3) := by decide +kernel
theorem d12_4 : decode prog_21_method_14_code 4 = .ok (.ireturn, 1) := by decide +kernel
theorem d13_0 : decode prog_21_method_15_code 0 = .ok (.aload_n 0, 1) := by decide +kernel
theorem d13_1 : decode prog_21_method_15_code 1 = .ok (.getfield 23, 3) := by decide +kernel
theorem d13_4 : decode prog_21_method_15_code 4 = .ok (.ireturn, 1) := by decide +kernel
theorem d9_0 : decode jdk_42_method_66_code 0 = .ok (.aload_n 0, 1) := by decide +kernel
theorem d9_1 : decode jdk_42_method_66_code 1 = .ok (.aload_n 1, 1) := by decide +kernel
theorem d9_2 : decode jdk_42_method_66_code 2 = .ok (.if_acmp .ne 5, 3) := by decide +kernel
theorem d9_5 : decode jdk_42_method_66_code 5 = .ok (.iconst 1, 1) := by decide +kernel
theorem d9_6 : decode jdk_42_method_66_code 6 = .ok (.ireturn, 1) := by decide +kernel
theorem pd0 : parseMethodDescriptor "([CIILjava/lang/Void;)V" = some ⟨[(.array .char), .int, .int, (.object "java/lang/Void")], none⟩ := by decide +kernel
theorem pd1 : parseMethodDescriptor "([C)V" = some ⟨[(.array .char)], none⟩ := by decide +kernel
theorem pd2 : parseMethodDescriptor "()V" = some ⟨[], none⟩ := by decide +kernel
theorem pd3 : parseMethodDescriptor "(Ljava/lang/String;Ljava/lang/String;Ljava/lang/String;ZZLjava/lang/String;)V" = some ⟨[(.object "java/lang/String"), (.object "java/lang/String"), (.object "java/lang/String"), .boolean, .boolean, (.object "java/lang/String")], none⟩ := by decide +kernel
theorem pd4 : parseMethodDescriptor "(I)Ljava/lang/String;" = some ⟨[.int], some (.object "java/lang/String")⟩ := by decide +kernel
theorem pd5 : parseMethodDescriptor "()Lcom/example/hord/hord/command/Option;" = some ⟨[], some (.object "com/example/hord/hord/command/Option")⟩ := by decide +kernel
theorem pd6 : parseMethodDescriptor "()Ljava/lang/String;" = some ⟨[], some (.object "java/lang/String")⟩ := by decide +kernel
theorem pd7 : parseMethodDescriptor "(Ljava/lang/Object;)Z" = some ⟨[(.object "java/lang/Object")], some .boolean⟩ := by decide +kernel
theorem pd8 : parseMethodDescriptor "()Z" = some ⟨[], some .boolean⟩ := by decide +kernel
theorem pn0 : plainName "java/lang/String" = true := by first | (simp [plainName, overriddenIn]; done) | decide +kernel
theorem pn1 : plainName "com/example/hord/hord/command/OptionToRepeatablePinLaw" = true := by first | (simp [plainName, overriddenIn]; done) | decide +kernel
theorem pn2 : plainName "java/lang/Record" = true := by first | (simp [plainName, overriddenIn]; done) | decide +kernel
theorem pn3 : plainName "com/example/hord/hord/command/Option" = true := by first | (simp [plainName, overriddenIn]; done) | decide +kernel
theorem wd0 {Z : State} {a0 : Array Value} (hw : ∀ d ∈ tables_1, d.before a0 Z = true) : (Jvm.Cond.methodLink "com/example/hord/hord/command/OptionToRepeatablePinLaw" (12 : Nat) ({ cls := "com/example/hord/hord/command/OptionToRepeatablePinLaw", name := "str", desc := "(I)Ljava/lang/String;" } : Jvm.MethodName)).before a0 Z = true := hw _ (List.mem_of_getElem? (i := 0) rfl)
theorem wd1 {Z : State} {a0 : Array Value} (hw : ∀ d ∈ tables_1, d.before a0 Z = true) : (Jvm.Cond.static ({ cls := "com/example/hord/hord/command/OptionToRepeatablePinLaw", name := "str", desc := "(I)Ljava/lang/String;" } : Jvm.MethodName)).before a0 Z = true := hw _ (List.mem_of_getElem? (i := 1) rfl)
theorem wd2 {Z : State} {a0 : Array Value} (hw : ∀ d ∈ tables_1, d.before a0 Z = true) : (Jvm.Cond.initialized "com/example/hord/hord/command/OptionToRepeatablePinLaw").before a0 Z = true := hw _ (List.mem_of_getElem? (i := 2) rfl)
theorem wd3 {Z : State} {a0 : Array Value} (hw : ∀ d ∈ tables_1, d.before a0 Z = true) : (Jvm.Cond.code ({ cls := "com/example/hord/hord/command/OptionToRepeatablePinLaw", name := "str", desc := "(I)Ljava/lang/String;" } : Jvm.MethodName) method_2_code (5 : Nat) (Option.some (Jvm.ClassFile.FieldType.object "java/lang/String"))).before a0 Z = true := hw _ (List.mem_of_getElem? (i := 3) rfl)
theorem wd4 {Z : State} {a0 : Array Value} (hw : ∀ d ∈ tables_1, d.before a0 Z = true) : (Jvm.Cond.classLink "com/example/hord/hord/command/OptionToRepeatablePinLaw" (7 : Nat) "java/lang/String").before a0 Z = true := hw _ (List.mem_of_getElem? (i := 4) rfl)
theorem wd5 {Z : State} {a0 : Array Value} (hw : ∀ d ∈ tables_1, d.before a0 Z = true) : (Jvm.Cond.instantiable "java/lang/String" (4 : Nat)).before a0 Z = true := hw _ (List.mem_of_getElem? (i := 5) rfl)
theorem wd6 {Z : State} {a0 : Array Value} (hw : ∀ d ∈ tables_1, d.before a0 Z = true) : (Jvm.Cond.initialized "java/lang/String").before a0 Z = true := hw _ (List.mem_of_getElem? (i := 6) rfl)
theorem wd7 {Z : State} {a0 : Array Value} (hw : ∀ d ∈ tables_1, d.before a0 Z = true) : (Jvm.Cond.arrayClass Jvm.ClassFile.FieldType.char).before a0 Z = true := hw _ (List.mem_of_getElem? (i := 7) rfl)
theorem wd8 {Z : State} {a0 : Array Value} (hw : ∀ d ∈ tables_1, d.before a0 Z = true) : (Jvm.Cond.methodLink "com/example/hord/hord/command/OptionToRepeatablePinLaw" (9 : Nat) ({ cls := "java/lang/String", name := "<init>", desc := "([C)V" } : Jvm.MethodName)).before a0 Z = true := hw _ (List.mem_of_getElem? (i := 8) rfl)
theorem wd9 {Z : State} {a0 : Array Value} (hw : ∀ d ∈ tables_1, d.before a0 Z = true) : (Jvm.Cond.instanceMethod ({ cls := "java/lang/String", name := "<init>", desc := "([C)V" } : Jvm.MethodName)).before a0 Z = true := hw _ (List.mem_of_getElem? (i := 9) rfl)
theorem wd10 {Z : State} {a0 : Array Value} (hw : ∀ d ∈ tables_1, d.before a0 Z = true) : (Jvm.Cond.code ({ cls := "java/lang/String", name := "<init>", desc := "([C)V" } : Jvm.MethodName) jdk_42_method_3_code (2 : Nat) (Option.none : Option Jvm.ClassFile.FieldType)).before a0 Z = true := hw _ (List.mem_of_getElem? (i := 10) rfl)
theorem wd11 {Z : State} {a0 : Array Value} (hw : ∀ d ∈ tables_1, d.before a0 Z = true) : (Jvm.Cond.methodLink "java/lang/String" (27 : Nat) ({ cls := "java/lang/String", name := "<init>", desc := "([CIILjava/lang/Void;)V" } : Jvm.MethodName)).before a0 Z = true := hw _ (List.mem_of_getElem? (i := 11) rfl)
theorem wd12 {Z : State} {a0 : Array Value} (hw : ∀ d ∈ tables_1, d.before a0 Z = true) : (Jvm.Cond.instanceMethod ({ cls := "java/lang/String", name := "<init>", desc := "([CIILjava/lang/Void;)V" } : Jvm.MethodName)).before a0 Z = true := hw _ (List.mem_of_getElem? (i := 12) rfl)
theorem wd14 {Z : State} {a0 : Array Value} (hw : ∀ d ∈ tables_1, d.before a0 Z = true) : (Jvm.Cond.code ({ cls := "java/lang/String", name := "<init>", desc := "([CIILjava/lang/Void;)V" } : Jvm.MethodName) jdk_42_method_149_code (6 : Nat) (Option.none : Option Jvm.ClassFile.FieldType)).before a0 Z = true := hw _ (List.mem_of_getElem? (i := 14) rfl)
theorem wd15 {Z : State} {a0 : Array Value} (hw : ∀ d ∈ tables_1, d.before a0 Z = true) : (Jvm.Cond.methodLink "java/lang/String" (1 : Nat) ({ cls := "java/lang/Object", name := "<init>", desc := "()V" } : Jvm.MethodName)).before a0 Z = true := hw _ (List.mem_of_getElem? (i := 15) rfl)
theorem wd16 {Z : State} {a0 : Array Value} (hw : ∀ d ∈ tables_1, d.before a0 Z = true) : (Jvm.Cond.instanceMethod ({ cls := "java/lang/Object", name := "<init>", desc := "()V" } : Jvm.MethodName)).before a0 Z = true := hw _ (List.mem_of_getElem? (i := 16) rfl)
theorem wd17 {Z : State} {a0 : Array Value} (hw : ∀ d ∈ tables_1, d.before a0 Z = true) : (Jvm.Cond.code ({ cls := "java/lang/Object", name := "<init>", desc := "()V" } : Jvm.MethodName) object_method_1_code (1 : Nat) (Option.none : Option Jvm.ClassFile.FieldType)).before a0 Z = true := hw _ (List.mem_of_getElem? (i := 17) rfl)
theorem wd18 {Z : State} {a0 : Array Value} (hw : ∀ d ∈ tables_1, d.before a0 Z = true) : (Jvm.Cond.stringLink "java/lang/String" (7 : Nat) "").before a0 Z = true := hw _ (List.mem_of_getElem? (i := 18) rfl)
theorem wd19 {Z : State} {a0 : Array Value} (hw : ∀ d ∈ tables_1, d.before a0 Z = true) : (Jvm.Cond.arrayClass Jvm.ClassFile.FieldType.byte).before a0 Z = true := hw _ (List.mem_of_getElem? (i := 19) rfl)
theorem wd20 {Z : State} {a0 : Array Value} (hw : ∀ d ∈ tables_1, d.before a0 Z = true) : (Jvm.Cond.laysFinal "java/lang/String" "java/lang/String" "value" "[B").before a0 Z = true := hw _ (List.mem_of_getElem? (i := 20) rfl)
theorem wd21 {Z : State} {a0 : Array Value} (hw : ∀ d ∈ tables_1, d.before a0 Z = true) : (Jvm.Cond.laysFinal "java/lang/String" "java/lang/String" "coder" "B").before a0 Z = true := hw _ (List.mem_of_getElem? (i := 21) rfl)
theorem wd24 {Z : State} {a0 : Array Value} (hw : ∀ d ∈ tables_1, d.before a0 Z = true) : (Jvm.Cond.fieldLink "java/lang/String" (9 : Nat) "java/lang/String" "value" "[B").before a0 Z = true := hw _ (List.mem_of_getElem? (i := 24) rfl)
theorem wd25 {Z : State} {a0 : Array Value} (hw : ∀ d ∈ tables_1, d.before a0 Z = true) : (Jvm.Cond.fieldLink "java/lang/String" (15 : Nat) "java/lang/String" "coder" "B").before a0 Z = true := hw _ (List.mem_of_getElem? (i := 25) rfl)
theorem wd26 {Z : State} {a0 : Array Value} (hw : ∀ d ∈ tables_1, d.before a0 Z = true) : (Jvm.Cond.classLink "com/example/hord/hord/command/OptionToRepeatablePinLaw" (18 : Nat) "com/example/hord/hord/command/Option").before a0 Z = true := hw _ (List.mem_of_getElem? (i := 26) rfl)
theorem wd27 {Z : State} {a0 : Array Value} (hw : ∀ d ∈ tables_1, d.before a0 Z = true) : (Jvm.Cond.instantiable "com/example/hord/hord/command/Option" (6 : Nat)).before a0 Z = true := hw _ (List.mem_of_getElem? (i := 27) rfl)
theorem wd28 {Z : State} {a0 : Array Value} (hw : ∀ d ∈ tables_1, d.before a0 Z = true) : (Jvm.Cond.initialized "com/example/hord/hord/command/Option").before a0 Z = true := hw _ (List.mem_of_getElem? (i := 28) rfl)
theorem wd29 {Z : State} {a0 : Array Value} (hw : ∀ d ∈ tables_1, d.before a0 Z = true) : (Jvm.Cond.methodLink "com/example/hord/hord/command/OptionToRepeatablePinLaw" (20 : Nat) ({ cls := "com/example/hord/hord/command/Option", name := "<init>", desc := "(Ljava/lang/String;Ljava/lang/String;Ljava/lang/String;ZZLjava/lang/String;)V" } : Jvm.MethodName)).before a0 Z = true := hw _ (List.mem_of_getElem? (i := 29) rfl)
theorem wd30 {Z : State} {a0 : Array Value} (hw : ∀ d ∈ tables_1, d.before a0 Z = true) : (Jvm.Cond.instanceMethod ({ cls := "com/example/hord/hord/command/Option", name := "<init>", desc := "(Ljava/lang/String;Ljava/lang/String;Ljava/lang/String;ZZLjava/lang/String;)V" } : Jvm.MethodName)).before a0 Z = true := hw _ (List.mem_of_getElem? (i := 30) rfl)
theorem wd31 {Z : State} {a0 : Array Value} (hw : ∀ d ∈ tables_1, d.before a0 Z = true) : (Jvm.Cond.code ({ cls := "com/example/hord/hord/command/Option", name := "<init>", desc := "(Ljava/lang/String;Ljava/lang/String;Ljava/lang/String;ZZLjava/lang/String;)V" } : Jvm.MethodName) prog_21_method_1_code (7 : Nat) (Option.none : Option Jvm.ClassFile.FieldType)).before a0 Z = true := hw _ (List.mem_of_getElem? (i := 31) rfl)
theorem wd32 {Z : State} {a0 : Array Value} (hw : ∀ d ∈ tables_1, d.before a0 Z = true) : (Jvm.Cond.methodLink "com/example/hord/hord/command/Option" (1 : Nat) ({ cls := "java/lang/Record", name := "<init>", desc := "()V" } : Jvm.MethodName)).before a0 Z = true := hw _ (List.mem_of_getElem? (i := 32) rfl)
theorem wd33 {Z : State} {a0 : Array Value} (hw : ∀ d ∈ tables_1, d.before a0 Z = true) : (Jvm.Cond.instanceMethod ({ cls := "java/lang/Record", name := "<init>", desc := "()V" } : Jvm.MethodName)).before a0 Z = true := hw _ (List.mem_of_getElem? (i := 33) rfl)
theorem wd35 {Z : State} {a0 : Array Value} (hw : ∀ d ∈ tables_1, d.before a0 Z = true) : (Jvm.Cond.initialized "java/lang/Record").before a0 Z = true := hw _ (List.mem_of_getElem? (i := 35) rfl)
theorem wd36 {Z : State} {a0 : Array Value} (hw : ∀ d ∈ tables_1, d.before a0 Z = true) : (Jvm.Cond.code ({ cls := "java/lang/Record", name := "<init>", desc := "()V" } : Jvm.MethodName) jdk_30_method_1_code (1 : Nat) (Option.none : Option Jvm.ClassFile.FieldType)).before a0 Z = true := hw _ (List.mem_of_getElem? (i := 36) rfl)
theorem wd37 {Z : State} {a0 : Array Value} (hw : ∀ d ∈ tables_1, d.before a0 Z = true) : (Jvm.Cond.methodLink "java/lang/Record" (1 : Nat) ({ cls := "java/lang/Object", name := "<init>", desc := "()V" } : Jvm.MethodName)).before a0 Z = true := hw _ (List.mem_of_getElem? (i := 37) rfl)
theorem wd38 {Z : State} {a0 : Array Value} (hw : ∀ d ∈ tables_1, d.before a0 Z = true) : (Jvm.Cond.fieldLink "com/example/hord/hord/command/Option" (7 : Nat) "com/example/hord/hord/command/Option" "name" "Ljava/lang/String;").before a0 Z = true := hw _ (List.mem_of_getElem? (i := 38) rfl)
theorem wd39 {Z : State} {a0 : Array Value} (hw : ∀ d ∈ tables_1, d.before a0 Z = true) : (Jvm.Cond.laysFinal "com/example/hord/hord/command/Option" "com/example/hord/hord/command/Option" "name" "Ljava/lang/String;").before a0 Z = true := hw _ (List.mem_of_getElem? (i := 39) rfl)
theorem wd40 {Z : State} {a0 : Array Value} (hw : ∀ d ∈ tables_1, d.before a0 Z = true) : (Jvm.Cond.fieldLink "com/example/hord/hord/command/Option" (13 : Nat) "com/example/hord/hord/command/Option" "value" "Ljava/lang/String;").before a0 Z = true := hw _ (List.mem_of_getElem? (i := 40) rfl)
theorem wd41 {Z : State} {a0 : Array Value} (hw : ∀ d ∈ tables_1, d.before a0 Z = true) : (Jvm.Cond.laysFinal "com/example/hord/hord/command/Option" "com/example/hord/hord/command/Option" "value" "Ljava/lang/String;").before a0 Z = true := hw _ (List.mem_of_getElem? (i := 41) rfl)
theorem wd42 {Z : State} {a0 : Array Value} (hw : ∀ d ∈ tables_1, d.before a0 Z = true) : (Jvm.Cond.fieldLink "com/example/hord/hord/command/Option" (16 : Nat) "com/example/hord/hord/command/Option" "defaultValue" "Ljava/lang/String;").before a0 Z = true := hw _ (List.mem_of_getElem? (i := 42) rfl)
theorem wd43 {Z : State} {a0 : Array Value} (hw : ∀ d ∈ tables_1, d.before a0 Z = true) : (Jvm.Cond.laysFinal "com/example/hord/hord/command/Option" "com/example/hord/hord/command/Option" "defaultValue" "Ljava/lang/String;").before a0 Z = true := hw _ (List.mem_of_getElem? (i := 43) rfl)
theorem wd44 {Z : State} {a0 : Array Value} (hw : ∀ d ∈ tables_1, d.before a0 Z = true) : (Jvm.Cond.fieldLink "com/example/hord/hord/command/Option" (19 : Nat) "com/example/hord/hord/command/Option" "required" "Z").before a0 Z = true := hw _ (List.mem_of_getElem? (i := 44) rfl)
theorem wd45 {Z : State} {a0 : Array Value} (hw : ∀ d ∈ tables_1, d.before a0 Z = true) : (Jvm.Cond.laysFinal "com/example/hord/hord/command/Option" "com/example/hord/hord/command/Option" "required" "Z").before a0 Z = true := hw _ (List.mem_of_getElem? (i := 45) rfl)
theorem wd46 {Z : State} {a0 : Array Value} (hw : ∀ d ∈ tables_1, d.before a0 Z = true) : (Jvm.Cond.fieldLink "com/example/hord/hord/command/Option" (23 : Nat) "com/example/hord/hord/command/Option" "repeatable" "Z").before a0 Z = true := hw _ (List.mem_of_getElem? (i := 46) rfl)
theorem wd47 {Z : State} {a0 : Array Value} (hw : ∀ d ∈ tables_1, d.before a0 Z = true) : (Jvm.Cond.laysFinal "com/example/hord/hord/command/Option" "com/example/hord/hord/command/Option" "repeatable" "Z").before a0 Z = true := hw _ (List.mem_of_getElem? (i := 47) rfl)
theorem wd48 {Z : State} {a0 : Array Value} (hw : ∀ d ∈ tables_1, d.before a0 Z = true) : (Jvm.Cond.fieldLink "com/example/hord/hord/command/Option" (26 : Nat) "com/example/hord/hord/command/Option" "description" "Ljava/lang/String;").before a0 Z = true := hw _ (List.mem_of_getElem? (i := 48) rfl)
theorem wd49 {Z : State} {a0 : Array Value} (hw : ∀ d ∈ tables_1, d.before a0 Z = true) : (Jvm.Cond.laysFinal "com/example/hord/hord/command/Option" "com/example/hord/hord/command/Option" "description" "Ljava/lang/String;").before a0 Z = true := hw _ (List.mem_of_getElem? (i := 49) rfl)
theorem wd50 {Z : State} {a0 : Array Value} (hw : ∀ d ∈ tables_1, d.before a0 Z = true) : (Jvm.Cond.methodLink "com/example/hord/hord/command/OptionToRepeatablePinLaw" (23 : Nat) ({ cls := "com/example/hord/hord/command/Option", name := "toRepeatable", desc := "()Lcom/example/hord/hord/command/Option;" } : Jvm.MethodName)).before a0 Z = true := hw _ (List.mem_of_getElem? (i := 50) rfl)
theorem wd51 {Z : State} {a0 : Array Value} (hw : ∀ d ∈ tables_1, d.before a0 Z = true) : (Jvm.Cond.declares ({ cls := "com/example/hord/hord/command/Option", name := "toRepeatable", desc := "()Lcom/example/hord/hord/command/Option;" } : Jvm.MethodName)).before a0 Z = true := hw _ (List.mem_of_getElem? (i := 51) rfl)
theorem wd52 {Z : State} {a0 : Array Value} (hw : ∀ d ∈ tables_1, d.before a0 Z = true) : (Jvm.Cond.instanceMethod ({ cls := "com/example/hord/hord/command/Option", name := "toRepeatable", desc := "()Lcom/example/hord/hord/command/Option;" } : Jvm.MethodName)).before a0 Z = true := hw _ (List.mem_of_getElem? (i := 52) rfl)
theorem wd53 {Z : State} {a0 : Array Value} (hw : ∀ d ∈ tables_1, d.before a0 Z = true) : (Jvm.Cond.selects "com/example/hord/hord/command/Option" ({ cls := "com/example/hord/hord/command/Option", name := "toRepeatable", desc := "()Lcom/example/hord/hord/command/Option;" } : Jvm.MethodName) ({ cls := "com/example/hord/hord/command/Option", name := "toRepeatable", desc := "()Lcom/example/hord/hord/command/Option;" } : Jvm.MethodName)).before a0 Z = true := hw _ (List.mem_of_getElem? (i := 53) rfl)
theorem wd54 {Z : State} {a0 : Array Value} (hw : ∀ d ∈ tables_1, d.before a0 Z = true) : (Jvm.Cond.code ({ cls := "com/example/hord/hord/command/Option", name := "toRepeatable", desc := "()Lcom/example/hord/hord/command/Option;" } : Jvm.MethodName) prog_21_method_7_code (1 : Nat) (Option.some (Jvm.ClassFile.FieldType.object "com/example/hord/hord/command/Option"))).before a0 Z = true := hw _ (List.mem_of_getElem? (i := 54) rfl)
theorem wd55 {Z : State} {a0 : Array Value} (hw : ∀ d ∈ tables_1, d.before a0 Z = true) : (Jvm.Cond.classLink "com/example/hord/hord/command/Option" (8 : Nat) "com/example/hord/hord/command/Option").before a0 Z = true := hw _ (List.mem_of_getElem? (i := 55) rfl)
theorem wd56 {Z : State} {a0 : Array Value} (hw : ∀ d ∈ tables_1, d.before a0 Z = true) : (Jvm.Cond.methodLink "com/example/hord/hord/command/Option" (29 : Nat) ({ cls := "com/example/hord/hord/command/Option", name := "<init>", desc := "(Ljava/lang/String;Ljava/lang/String;Ljava/lang/String;ZZLjava/lang/String;)V" } : Jvm.MethodName)).before a0 Z = true := hw _ (List.mem_of_getElem? (i := 56) rfl)
theorem wd57 {Z : State} {a0 : Array Value} (hw : ∀ d ∈ tables_1, d.before a0 Z = true) : (Jvm.Cond.methodLink "com/example/hord/hord/command/OptionToRepeatablePinLaw" (27 : Nat) ({ cls := "com/example/hord/hord/command/Option", name := "defaultValue", desc := "()Ljava/lang/String;" } : Jvm.MethodName)).before a0 Z = true := hw _ (List.mem_of_getElem? (i := 57) rfl)
theorem wd58 {Z : State} {a0 : Array Value} (hw : ∀ d ∈ tables_1, d.before a0 Z = true) : (Jvm.Cond.declares ({ cls := "com/example/hord/hord/command/Option", name := "defaultValue", desc := "()Ljava/lang/String;" } : Jvm.MethodName)).before a0 Z = true := hw _ (List.mem_of_getElem? (i := 58) rfl)
theorem wd59 {Z : State} {a0 : Array Value} (hw : ∀ d ∈ tables_1, d.before a0 Z = true) : (Jvm.Cond.instanceMethod ({ cls := "com/example/hord/hord/command/Option", name := "defaultValue", desc := "()Ljava/lang/String;" } : Jvm.MethodName)).before a0 Z = true := hw _ (List.mem_of_getElem? (i := 59) rfl)
theorem wd60 {Z : State} {a0 : Array Value} (hw : ∀ d ∈ tables_1, d.before a0 Z = true) : (Jvm.Cond.selects "com/example/hord/hord/command/Option" ({ cls := "com/example/hord/hord/command/Option", name := "defaultValue", desc := "()Ljava/lang/String;" } : Jvm.MethodName) ({ cls := "com/example/hord/hord/command/Option", name := "defaultValue", desc := "()Ljava/lang/String;" } : Jvm.MethodName)).before a0 Z = true := hw _ (List.mem_of_getElem? (i := 60) rfl)
theorem wd61 {Z : State} {a0 : Array Value} (hw : ∀ d ∈ tables_1, d.before a0 Z = true) : (Jvm.Cond.code ({ cls := "com/example/hord/hord/command/Option", name := "defaultValue", desc := "()Ljava/lang/String;" } : Jvm.MethodName) prog_21_method_13_code (1 : Nat) (Option.some (Jvm.ClassFile.FieldType.object "java/lang/String"))).before a0 Z = true := hw _ (List.mem_of_getElem? (i := 61) rfl)
theorem wd62 {Z : State} {a0 : Array Value} (hw : ∀ d ∈ tables_1, d.before a0 Z = true) : (Jvm.Cond.methodLink "com/example/hord/hord/command/OptionToRepeatablePinLaw" (31 : Nat) ({ cls := "java/lang/String", name := "equals", desc := "(Ljava/lang/Object;)Z" } : Jvm.MethodName)).before a0 Z = true := hw _ (List.mem_of_getElem? (i := 62) rfl)
theorem wd63 {Z : State} {a0 : Array Value} (hw : ∀ d ∈ tables_1, d.before a0 Z = true) : (Jvm.Cond.declares ({ cls := "java/lang/String", name := "equals", desc := "(Ljava/lang/Object;)Z" } : Jvm.MethodName)).before a0 Z = true := hw _ (List.mem_of_getElem? (i := 63) rfl)
theorem wd64 {Z : State} {a0 : Array Value} (hw : ∀ d ∈ tables_1, d.before a0 Z = true) : (Jvm.Cond.instanceMethod ({ cls := "java/lang/String", name := "equals", desc := "(Ljava/lang/Object;)Z" } : Jvm.MethodName)).before a0 Z = true := hw _ (List.mem_of_getElem? (i := 64) rfl)
theorem wd65 {Z : State} {a0 : Array Value} (hw : ∀ d ∈ tables_1, d.before a0 Z = true) : (Jvm.Cond.selects "java/lang/String" ({ cls := "java/lang/String", name := "equals", desc := "(Ljava/lang/Object;)Z" } : Jvm.MethodName) ({ cls := "java/lang/String", name := "equals", desc := "(Ljava/lang/Object;)Z" } : Jvm.MethodName)).before a0 Z = true := hw _ (List.mem_of_getElem? (i := 65) rfl)
theorem wd66 {Z : State} {a0 : Array Value} (hw : ∀ d ∈ tables_1, d.before a0 Z = true) : (Jvm.Cond.code ({ cls := "java/lang/String", name := "equals", desc := "(Ljava/lang/Object;)Z" } : Jvm.MethodName) jdk_42_method_66_code (3 : Nat) (Option.some Jvm.ClassFile.FieldType.boolean)).before a0 Z = true := hw _ (List.mem_of_getElem? (i := 66) rfl)
theorem wd67 {Z : State} {a0 : Array Value} (hw : ∀ d ∈ tables_1, d.before a0 Z = true) : (Jvm.Cond.methodLink "com/example/hord/hord/command/OptionToRepeatablePinLaw" (35 : Nat) ({ cls := "com/example/hord/hord/command/Option", name := "name", desc := "()Ljava/lang/String;" } : Jvm.MethodName)).before a0 Z = true := hw _ (List.mem_of_getElem? (i := 67) rfl)
theorem wd68 {Z : State} {a0 : Array Value} (hw : ∀ d ∈ tables_1, d.before a0 Z = true) : (Jvm.Cond.declares ({ cls := "com/example/hord/hord/command/Option", name := "name", desc := "()Ljava/lang/String;" } : Jvm.MethodName)).before a0 Z = true := hw _ (List.mem_of_getElem? (i := 68) rfl)
theorem wd69 {Z : State} {a0 : Array Value} (hw : ∀ d ∈ tables_1, d.before a0 Z = true) : (Jvm.Cond.instanceMethod ({ cls := "com/example/hord/hord/command/Option", name := "name", desc := "()Ljava/lang/String;" } : Jvm.MethodName)).before a0 Z = true := hw _ (List.mem_of_getElem? (i := 69) rfl)
theorem wd70 {Z : State} {a0 : Array Value} (hw : ∀ d ∈ tables_1, d.before a0 Z = true) : (Jvm.Cond.selects "com/example/hord/hord/command/Option" ({ cls := "com/example/hord/hord/command/Option", name := "name", desc := "()Ljava/lang/String;" } : Jvm.MethodName) ({ cls := "com/example/hord/hord/command/Option", name := "name", desc := "()Ljava/lang/String;" } : Jvm.MethodName)).before a0 Z = true := hw _ (List.mem_of_getElem? (i := 70) rfl)
theorem wd71 {Z : State} {a0 : Array Value} (hw : ∀ d ∈ tables_1, d.before a0 Z = true) : (Jvm.Cond.code ({ cls := "com/example/hord/hord/command/Option", name := "name", desc := "()Ljava/lang/String;" } : Jvm.MethodName) prog_21_method_11_code (1 : Nat) (Option.some (Jvm.ClassFile.FieldType.object "java/lang/String"))).before a0 Z = true := hw _ (List.mem_of_getElem? (i := 71) rfl)
theorem wd72 {Z : State} {a0 : Array Value} (hw : ∀ d ∈ tables_1, d.before a0 Z = true) : (Jvm.Cond.methodLink "com/example/hord/hord/command/OptionToRepeatablePinLaw" (38 : Nat) ({ cls := "com/example/hord/hord/command/Option", name := "value", desc := "()Ljava/lang/String;" } : Jvm.MethodName)).before a0 Z = true := hw _ (List.mem_of_getElem? (i := 72) rfl)
theorem wd73 {Z : State} {a0 : Array Value} (hw : ∀ d ∈ tables_1, d.before a0 Z = true) : (Jvm.Cond.declares ({ cls := "com/example/hord/hord/command/Option", name := "value", desc := "()Ljava/lang/String;" } : Jvm.MethodName)).before a0 Z = true := hw _ (List.mem_of_getElem? (i := 73) rfl)
theorem wd74 {Z : State} {a0 : Array Value} (hw : ∀ d ∈ tables_1, d.before a0 Z = true) : (Jvm.Cond.instanceMethod ({ cls := "com/example/hord/hord/command/Option", name := "value", desc := "()Ljava/lang/String;" } : Jvm.MethodName)).before a0 Z = true := hw _ (List.mem_of_getElem? (i := 74) rfl)
theorem wd75 {Z : State} {a0 : Array Value} (hw : ∀ d ∈ tables_1, d.before a0 Z = true) : (Jvm.Cond.selects "com/example/hord/hord/command/Option" ({ cls := "com/example/hord/hord/command/Option", name := "value", desc := "()Ljava/lang/String;" } : Jvm.MethodName) ({ cls := "com/example/hord/hord/command/Option", name := "value", desc := "()Ljava/lang/String;" } : Jvm.MethodName)).before a0 Z = true := hw _ (List.mem_of_getElem? (i := 75) rfl)
theorem wd76 {Z : State} {a0 : Array Value} (hw : ∀ d ∈ tables_1, d.before a0 Z = true) : (Jvm.Cond.code ({ cls := "com/example/hord/hord/command/Option", name := "value", desc := "()Ljava/lang/String;" } : Jvm.MethodName) prog_21_method_12_code (1 : Nat) (Option.some (Jvm.ClassFile.FieldType.object "java/lang/String"))).before a0 Z = true := hw _ (List.mem_of_getElem? (i := 76) rfl)
theorem wd77 {Z : State} {a0 : Array Value} (hw : ∀ d ∈ tables_1, d.before a0 Z = true) : (Jvm.Cond.methodLink "com/example/hord/hord/command/OptionToRepeatablePinLaw" (41 : Nat) ({ cls := "com/example/hord/hord/command/Option", name := "required", desc := "()Z" } : Jvm.MethodName)).before a0 Z = true := hw _ (List.mem_of_getElem? (i := 77) rfl)
theorem wd78 {Z : State} {a0 : Array Value} (hw : ∀ d ∈ tables_1, d.before a0 Z = true) : (Jvm.Cond.declares ({ cls := "com/example/hord/hord/command/Option", name := "required", desc := "()Z" } : Jvm.MethodName)).before a0 Z = true := hw _ (List.mem_of_getElem? (i := 78) rfl)
theorem wd79 {Z : State} {a0 : Array Value} (hw : ∀ d ∈ tables_1, d.before a0 Z = true) : (Jvm.Cond.instanceMethod ({ cls := "com/example/hord/hord/command/Option", name := "required", desc := "()Z" } : Jvm.MethodName)).before a0 Z = true := hw _ (List.mem_of_getElem? (i := 79) rfl)
theorem wd80 {Z : State} {a0 : Array Value} (hw : ∀ d ∈ tables_1, d.before a0 Z = true) : (Jvm.Cond.selects "com/example/hord/hord/command/Option" ({ cls := "com/example/hord/hord/command/Option", name := "required", desc := "()Z" } : Jvm.MethodName) ({ cls := "com/example/hord/hord/command/Option", name := "required", desc := "()Z" } : Jvm.MethodName)).before a0 Z = true := hw _ (List.mem_of_getElem? (i := 80) rfl)
theorem wd81 {Z : State} {a0 : Array Value} (hw : ∀ d ∈ tables_1, d.before a0 Z = true) : (Jvm.Cond.code ({ cls := "com/example/hord/hord/command/Option", name := "required", desc := "()Z" } : Jvm.MethodName) prog_21_method_14_code (1 : Nat) (Option.some Jvm.ClassFile.FieldType.boolean)).before a0 Z = true := hw _ (List.mem_of_getElem? (i := 81) rfl)
theorem wd82 {Z : State} {a0 : Array Value} (hw : ∀ d ∈ tables_1, d.before a0 Z = true) : (Jvm.Cond.methodLink "com/example/hord/hord/command/OptionToRepeatablePinLaw" (45 : Nat) ({ cls := "com/example/hord/hord/command/Option", name := "repeatable", desc := "()Z" } : Jvm.MethodName)).before a0 Z = true := hw _ (List.mem_of_getElem? (i := 82) rfl)
theorem wd83 {Z : State} {a0 : Array Value} (hw : ∀ d ∈ tables_1, d.before a0 Z = true) : (Jvm.Cond.declares ({ cls := "com/example/hord/hord/command/Option", name := "repeatable", desc := "()Z" } : Jvm.MethodName)).before a0 Z = true := hw _ (List.mem_of_getElem? (i := 83) rfl)
theorem wd84 {Z : State} {a0 : Array Value} (hw : ∀ d ∈ tables_1, d.before a0 Z = true) : (Jvm.Cond.instanceMethod ({ cls := "com/example/hord/hord/command/Option", name := "repeatable", desc := "()Z" } : Jvm.MethodName)).before a0 Z = true := hw _ (List.mem_of_getElem? (i := 84) rfl)
theorem wd85 {Z : State} {a0 : Array Value} (hw : ∀ d ∈ tables_1, d.before a0 Z = true) : (Jvm.Cond.selects "com/example/hord/hord/command/Option" ({ cls := "com/example/hord/hord/command/Option", name := "repeatable", desc := "()Z" } : Jvm.MethodName) ({ cls := "com/example/hord/hord/command/Option", name := "repeatable", desc := "()Z" } : Jvm.MethodName)).before a0 Z = true := hw _ (List.mem_of_getElem? (i := 85) rfl)
theorem wd86 {Z : State} {a0 : Array Value} (hw : ∀ d ∈ tables_1, d.before a0 Z = true) : (Jvm.Cond.code ({ cls := "com/example/hord/hord/command/Option", name := "repeatable", desc := "()Z" } : Jvm.MethodName) prog_21_method_15_code (1 : Nat) (Option.some Jvm.ClassFile.FieldType.boolean)).before a0 Z = true := hw _ (List.mem_of_getElem? (i := 86) rfl)
theorem wd87 {Z : State} {a0 : Array Value} (hw : ∀ d ∈ tables_1, d.before a0 Z = true) : (Jvm.Cond.methodLink "com/example/hord/hord/command/OptionToRepeatablePinLaw" (48 : Nat) ({ cls := "com/example/hord/hord/command/Option", name := "description", desc := "()Ljava/lang/String;" } : Jvm.MethodName)).before a0 Z = true := hw _ (List.mem_of_getElem? (i := 87) rfl)
theorem wd88 {Z : State} {a0 : Array Value} (hw : ∀ d ∈ tables_1, d.before a0 Z = true) : (Jvm.Cond.declares ({ cls := "com/example/hord/hord/command/Option", name := "description", desc := "()Ljava/lang/String;" } : Jvm.MethodName)).before a0 Z = true := hw _ (List.mem_of_getElem? (i := 88) rfl)
theorem wd89 {Z : State} {a0 : Array Value} (hw : ∀ d ∈ tables_1, d.before a0 Z = true) : (Jvm.Cond.instanceMethod ({ cls := "com/example/hord/hord/command/Option", name := "description", desc := "()Ljava/lang/String;" } : Jvm.MethodName)).before a0 Z = true := hw _ (List.mem_of_getElem? (i := 89) rfl)
theorem wd90 {Z : State} {a0 : Array Value} (hw : ∀ d ∈ tables_1, d.before a0 Z = true) : (Jvm.Cond.selects "com/example/hord/hord/command/Option" ({ cls := "com/example/hord/hord/command/Option", name := "description", desc := "()Ljava/lang/String;" } : Jvm.MethodName) ({ cls := "com/example/hord/hord/command/Option", name := "description", desc := "()Ljava/lang/String;" } : Jvm.MethodName)).before a0 Z = true := hw _ (List.mem_of_getElem? (i := 90) rfl)
theorem wd91 {Z : State} {a0 : Array Value} (hw : ∀ d ∈ tables_1, d.before a0 Z = true) : (Jvm.Cond.code ({ cls := "com/example/hord/hord/command/Option", name := "description", desc := "()Ljava/lang/String;" } : Jvm.MethodName) prog_21_method_16_code (1 : Nat) (Option.some (Jvm.ClassFile.FieldType.object "java/lang/String"))).before a0 Z = true := hw _ (List.mem_of_getElem? (i := 91) rfl)
theorem ew1 {Z : State} {a0 : Array Value} (hw : ∀ d ∈ tables_1, d.before a0 Z = true) : EW Z a0 consts_1 := (EW.cons (wd18 hw) (by decide) EW.nil)
theorem sa1 {Z : State} {a0 : Array Value} (hw : ∀ d ∈ tables_1, d.before a0 Z = true) : ∀ a ∈ Bundle.stringAtoms, a.before a0 Z = true := fun d hd => hw d ((by decide +kernel : ∀ d ∈ Bundle.stringAtoms, d ∈ tables_1) d hd)
set_option maxRecDepth 65536 in
set_option maxHeartbeats 40000000 in
theorem ef_rmE1 (m : MethodId) (a1 : Addr) (a2 : Addr) : entryFrame m #[(.ref a1), (.ref a2), (.int (0 : Int32)), (.int (0 : Int32)), .null] 6 = mkF m 0 #[.val (.ref a1), .val (.ref a2), .val (.int (0 : Int32)), .val (.int (0 : Int32)), .val .null, .unset] [] := by first | (simp [entryFrame, mkF, argsToLocals, Value.category]; done) | (rfl)
set_option maxRecDepth 65536 in
set_option maxHeartbeats 40000000 in
theorem rmE1 (l : Launch) (Z : State) (a0 : Array Value) (hw : ∀ d ∈ tables_1, d.before a0 Z = true) (ew : EW Z a0 consts_1) (a1 : Addr) (a2 : Addr) (h0 : Heap) (O : Ext Z.heap h0) (za : Z.heap.size ≤ a1) (E_a1 : Exa Z h0 a1 "java/lang/String") (F_a1_value : Fld Z h0 a1 "java/lang/String" "value" "[B" .null) (F_a1_coder : Fld Z h0 a1 "java/lang/String" "coder" "B" (.int 0)) :
    MCc l Z consts_1 (⟨"java/lang/String", "<init>", "([CIILjava/lang/Void;)V"⟩ : MethodName) jdk_42_method_149_code 6 none [] ({ frames := 1, cells := 4, slots := 8, locals := 12 } : Room) #[(.ref a1), (.ref a2), (.int (0 : Int32)), (.int (0 : Int32)), .null] h0 [a1] (RU (fun h => Str Z h a1 [])) := by
  refine MCc.mk (a0 := a0) rfl rfl (plainFor_of_name pn0) O ew (fun m => ef_rmE1 m a1 a2) ?_
  intro pg ev s m below meth cd T hh X
  subst hh
  have lt_a1 := E_a1.lt
  refine X.aloadN (pc' := 1) d3_0 rfl rfl rfl ?_
  refine X.initO (pc' := 4) (wd15 hw) (wd16 hw) (wd17 hw) rfl d3_1 (leB rfl) (leB rfl) rfl ?_
  intro T X
  refine X.iloadN (pc' := 5) d3_4 rfl rfl ?_
  refine X.ifN (pc' := 8) d3_5 (by decide) rfl ?_
  refine X.aloadN (pc' := 9) d3_8 rfl rfl rfl ?_
  refine X.ldcS (pc' := 11) (vs := []) (z := (0 : Int32)) (wd18 hw) (sa1 hw) (by simp [consts_1]) (by decide) (by decide) rfl d3_9 0 (by decide) (by decide) (leB rfl) (leB rfl) rfl ?_
  intro T vm h l1 t1 ka_t1 Ex hC E_l1 F_l1_coder F_l1_value V_t1 lt_l1 lt_t1 sf X
  replace F_a1_value := F_a1_value.ext Ex
  replace F_a1_coder := F_a1_coder.ext Ex
  replace E_a1 := E_a1.ext Ex
  replace lt_a1 := Nat.lt_of_lt_of_le lt_a1 Ex.1
  have sf1 := Safe.blank (EL := consts_1) X.al E_a1 (wd5 hw) F_a1_value
  have ne1 := sf _ sf1
  refine X.getF (pc' := 14) (wd24 hw) Via.refl F_l1_value d3_11 rfl ?_
  intro T X
  have H0 := X.H
  refine X.putF (pc' := 17) (wd24 hw) Via.refl F_a1_value E_a1 (Or.inr ⟨(wd20 hw), rfl, rfl⟩) (wd5 hw) (.array .byte) (by decide) rfl rfl sf1 za (Or.inl (List.mem_of_getElem? (i := 0) rfl)) d3_14 rfl ?_
  intro T h L X W
  replace F_a1_coder := F_a1_coder.other W (Or.inr (slot_ne (Or.inr (wd21 hw)) (Or.inr (wd20 hw)) (by decide) (t := .byte) (t' := (.array .byte)) (by decide) (by decide)))
  replace E_a1 := E_a1.wr W
  replace lt_a1 := Nat.lt_of_lt_of_le lt_a1 (Keep.of_wr W).1
  replace E_l1 := E_l1.wr W
  replace F_l1_coder := F_l1_coder.other W (Or.inl (Ne.symm ne1.1))
  replace F_l1_value := F_l1_value.other W (Or.inl (Ne.symm ne1.1))
  replace V_t1 := V_t1.other W (Ne.symm ne1.2)
  replace lt_l1 := Nat.lt_of_lt_of_le lt_l1 (Keep.of_wr W).1
  replace lt_t1 := Nat.lt_of_lt_of_le lt_t1 (Keep.of_wr W).1
  replace F_a1_value := F_a1_value.same W
  replace sf1 := Safe.wr W sf1 H0 sf1
  refine X.aloadN (pc' := 18) d3_17 rfl rfl rfl ?_
  refine X.ldcS (pc' := 20) (vs := []) (z := (0 : Int32)) (wd18 hw) (sa1 hw) (by simp [consts_1]) (by decide) (by decide) rfl d3_18 0 (by decide) (by decide) (leB rfl) (leB rfl) rfl ?_
  intro T vm h l2 t2 ka_t2 Ex hC E_l2 F_l2_coder F_l2_value V_t2 lt_l2 lt_t2 sf X
  replace sf1 := hC.safe lt_a1 sf1
  replace F_a1_value := F_a1_value.ext Ex
  replace F_a1_coder := F_a1_coder.ext Ex
  replace E_a1 := E_a1.ext Ex
  replace lt_a1 := Nat.lt_of_lt_of_le lt_a1 Ex.1
  replace V_t1 := V_t1.ext Ex
  replace lt_t1 := Nat.lt_of_lt_of_le lt_t1 Ex.1
  have ne2 := sf _ sf1
  refine X.getF (pc' := 23) (wd25 hw) Via.refl F_l2_coder d3_20 rfl ?_
  intro T X
  refine X.putF (pc' := 26) (wd25 hw) Via.refl F_a1_coder E_a1 (Or.inr ⟨(wd21 hw), rfl, rfl⟩) (wd5 hw) .byte (by decide) rfl rfl sf1 za (Or.inl (List.mem_of_getElem? (i := 0) rfl)) d3_23 rfl ?_
  intro T h L X W
  replace F_a1_value := F_a1_value.other W (Or.inr (slot_ne (Or.inr (wd20 hw)) (Or.inr (wd21 hw)) (by decide) (t := (.array .byte)) (t' := .byte) (by decide) (by decide)))
  replace E_a1 := E_a1.wr W
  replace lt_a1 := Nat.lt_of_lt_of_le lt_a1 (Keep.of_wr W).1
  replace V_t1 := V_t1.other W (Ne.symm ne1.2)
  replace lt_t1 := Nat.lt_of_lt_of_le lt_t1 (Keep.of_wr W).1
  replace lt_l2 := Nat.lt_of_lt_of_le lt_l2 (Keep.of_wr W).1
  replace lt_t2 := Nat.lt_of_lt_of_le lt_t2 (Keep.of_wr W).1
  replace F_a1_coder := F_a1_coder.same W
  exact X.retUC d3_26 (by decide) (by decide) ⟨rfl, t1, ka_t1, 0, 0, [], E_a1, F_a1_value, F_a1_coder, V_t1, StrChars.Road.codOf (cs := []) (n := 0) rfl (fun _ q => nomatch q), (fun _ q => nomatch q), by decide⟩
set_option maxRecDepth 65536 in
set_option maxHeartbeats 40000000 in
theorem ef_rmE0 (m : MethodId) (a1 : Addr) (a2 : Addr) : entryFrame m #[(.ref a1), (.ref a2)] 2 = mkF m 0 #[.val (.ref a1), .val (.ref a2)] [] := by first | (simp [entryFrame, mkF, argsToLocals, Value.category]; done) | (rfl)
set_option maxRecDepth 65536 in
set_option maxHeartbeats 40000000 in
theorem rmE0 (l : Launch) (Z : State) (a0 : Array Value) (hw : ∀ d ∈ tables_1, d.before a0 Z = true) (ew : EW Z a0 consts_1) (a1 : Addr) (a2 : Addr) (h0 : Heap) (O : Ext Z.heap h0) (za : Z.heap.size ≤ a1) (E_a1 : Exa Z h0 a1 "java/lang/String") (F_a1_value : Fld Z h0 a1 "java/lang/String" "value" "[B" .null) (F_a1_coder : Fld Z h0 a1 "java/lang/String" "coder" "B" (.int 0)) (ka : ClassId) (V : Arv Z h0 a2 ka .char (0 : Int32) [] (.int 0)) :
    MCc l Z consts_1 (⟨"java/lang/String", "<init>", "([C)V"⟩ : MethodName) jdk_42_method_3_code 2 none [] ({ frames := 2, cells := 4, slots := 8, locals := 40 } : Room) #[(.ref a1), (.ref a2)] h0 [a1] (RU (fun h => Str Z h a1 [])) := by
  refine MCc.mk (a0 := a0) rfl rfl (plainFor_of_name pn0) O ew (fun m => ef_rmE0 m a1 a2) ?_
  intro pg ev s m below meth cd T hh X
  subst hh
  refine X.aloadN (pc' := 1) d2_0 rfl rfl rfl ?_
  refine X.aloadN (pc' := 2) d2_1 rfl rfl rfl ?_
  refine X.iconst (pc' := 3) (0 : Int32) d2_2 rfl rfl ?_
  refine X.aloadN (pc' := 4) d2_3 rfl rfl rfl ?_
  refine X.alen (pc' := 5) V d2_4 rfl ?_
  refine X.aconstNull (pc' := 6) d2_5 rfl ?_
  refine X.coldU (pc' := 9) (X.sSpecial rfl (wd11 hw) (wd12 hw) (wd14 hw) (by decide) rfl pd0 [(.ref a2), (.int (0 : Int32)), (.int (0 : Int32)), .null] rfl rfl d2_6) (rmE1 l Z a0 hw ew a1 a2 _ X.old za E_a1 F_a1_value F_a1_coder) (wd14 hw) (wd6 hw) (leB rfl) (leB rfl) (leB rfl) (leB rfl) (allS (Or.inl (List.mem_of_getElem? (i := 0) rfl)) all0) rfl ?_
  intro T vm h L X K hC q
  exact X.retUC d2_9 (by decide) (by decide) ⟨rfl, q⟩
set_option maxRecDepth 65536 in
set_option maxHeartbeats 40000000 in
theorem ef_rmStr (m : MethodId) (p1 : Int32) : entryFrame m #[(.int p1)] 5 = mkF m 0 #[.val (.int p1), .unset, .unset, .unset, .unset] [] := by first | (simp [entryFrame, mkF, argsToLocals, Value.category]; done) | (rfl)
set_option maxRecDepth 65536 in
set_option maxHeartbeats 40000000 in
theorem rmStr (l : Launch) (Z : State) (a0 : Array Value) (hw : ∀ d ∈ tables_1, d.before a0 Z = true) (ew : EW Z a0 consts_1) (p1 : Int32) (h0 : Heap) (O : Ext Z.heap h0) (z : Int32) (O2 : Sta Z Z.heap "java/lang/String" "COMPACT_STRINGS" "Z" (.int z)) (hz : ¬ z = 0) :
    MCc l Z consts_1 (⟨"com/example/hord/hord/command/OptionToRepeatablePinLaw", "str", "(I)Ljava/lang/String;"⟩ : MethodName) method_2_code 5 (some (.object "java/lang/String")) [] ({ frames := 4, cells := 6, slots := 12, locals := 66 } : Room) #[(.int p1)] h0 [] (RV (fun w h => ∃ r cs, w = .ref r ∧ h0.size ≤ r ∧ Str Z h r cs)) := by
  refine MCc.mk (a0 := a0) rfl rfl (plainFor_of_name pn1) O ew (fun m => ef_rmStr m p1) ?_
  intro pg ev s m below meth cd T hh X
  subst hh
  have hws : ∀ d ∈ StrChars.Road.words, d.before a0 Z = true := fun d hd => hw d ((by decide +kernel : ∀ d ∈ StrChars.Road.words, d ∈ tables_1) d hd)
  refine X.iloadN (pc' := 1) d1_0 rfl rfl ?_
  refine X.bipush (pc' := 3) (16 : Int32) d1_1 rfl rfl ?_
  refine X.iushr (pc' := 4) d1_3 rfl ?_
  refine X.iconst (pc' := 5) (3 : Int32) d1_4 rfl rfl ?_
  refine X.iand (pc' := 6) d1_5 rfl ?_
  generalize hg_n : (((p1.toUInt32 >>> ((16 : Int32) &&& 31).toUInt32).toInt32) &&& (3 : Int32)) = n
  refine X.istoreN (pc' := 7) #[.val (.int p1), .val (.int n), .unset, .unset, .unset] d1_6 rfl rfl ?_
  refine X.iloadN (pc' := 8) d1_7 rfl rfl ?_
  refine X.sipush (pc' := 11) (255 : Int32) d1_8 rfl rfl ?_
  refine X.iand (pc' := 12) d1_11 rfl ?_
  refine X.i2c (pc' := 13) d1_12 rfl ?_
  generalize hc_c0 : ((p1 &&& (255 : Int32)).toUInt32.toUInt16.toUInt32.toInt32) = c0
  have r_c0 := chr255 hc_c0
  refine X.istoreN (pc' := 14) #[.val (.int p1), .val (.int n), .val (.int c0), .unset, .unset] d1_13 rfl rfl ?_
  refine X.iloadN (pc' := 15) d1_14 rfl rfl ?_
  refine X.bipush (pc' := 17) (8 : Int32) d1_15 rfl rfl ?_
  refine X.iushr (pc' := 18) d1_17 rfl ?_
  refine X.sipush (pc' := 21) (255 : Int32) d1_18 rfl rfl ?_
  refine X.iand (pc' := 22) d1_21 rfl ?_
  refine X.i2c (pc' := 23) d1_22 rfl ?_
  generalize hc_c1 : ((((p1.toUInt32 >>> ((8 : Int32) &&& 31).toUInt32).toInt32) &&& (255 : Int32)).toUInt32.toUInt16.toUInt32.toInt32) = c1
  have r_c1 := chr255 hc_c1
  refine X.istoreN (pc' := 24) #[.val (.int p1), .val (.int n), .val (.int c0), .val (.int c1), .unset] d1_23 rfl rfl ?_
  refine X.iloadN (pc' := 25) d1_24 rfl rfl ?_
  by_cases hn0 : n = 0
  · refine X.ifN (pc' := 28) d1_25 ((if0 _ _).trans (teq hn0).2) rfl ?_
    refine X.newO (pc' := 31) (wd4 hw) (wd5 hw) (wd6 hw) d1_28 (by decide) (by decide) rfl ?_
    intro T h x1 g_x1 Ex lt_x1 E_x1 D_x1 X1
    have z_x1 : Z.heap.size ≤ x1 := by rw [g_x1]; exact X.old.1
    have s_x1 : s.heap.size ≤ x1 := by rw [g_x1]; exact X.kp.1
    replace X := X1
    have F_x1_value : Fld Z h x1 "java/lang/String" "value" "[B" .null := D_x1 (Or.inr (wd20 hw)) (ty := (.array .byte)) (by decide)
    have F_x1_coder : Fld Z h x1 "java/lang/String" "coder" "B" (.int (0 : Int32)) := D_x1 (Or.inr (wd21 hw)) (ty := .byte) (by decide)
    refine X.dup (pc' := 32) d1_31 rfl rfl ?_
    refine X.iconst (pc' := 33) (0 : Int32) d1_32 rfl rfl ?_
    refine X.newP (pc' := 35) (aty := .char) (wd7 hw) d1_33 (by decide) 0 (by decide) (by decide) (by decide) (by decide) rfl ?_
    intro T h b1 ka_b1 g_b1 Ex lt_b1 V_b1 X1
    have z_b1 : Z.heap.size ≤ b1 := by rw [g_b1]; exact X.old.1
    have s_b1 : s.heap.size ≤ b1 := by rw [g_b1]; exact X.kp.1
    have ne_x1_b1 : x1 ≠ b1 := Nat.ne_of_lt (by rw [g_b1]; exact lt_x1)
    replace E_x1 := E_x1.ext Ex
    replace lt_x1 := Nat.lt_of_lt_of_le lt_x1 Ex.1
    replace F_x1_value := F_x1_value.ext Ex
    replace F_x1_coder := F_x1_coder.ext Ex
    replace X := X1
    replace V_b1 : Arv Z h b1 ka_b1 .char (0 : Int32) [] (.int (0 : Int32)) := (Arv.pad V_b1 (pad_rep [] (.int (0 : Int32)) 0))
    refine X.coldU (pc' := 38) (X.sSpecial rfl (wd8 hw) (wd9 hw) (wd10 hw) (by decide) rfl pd1 [(.ref b1)] rfl rfl d1_35) (rmE0 l Z a0 hw ew x1 b1 _ X.old z_x1 E_x1 F_x1_value F_x1_coder _ V_b1) (wd10 hw) (wd6 hw) (leB rfl) (leB rfl) (leB rfl) (leB rfl) (allS (Or.inr s_x1) all0) rfl ?_
    intro T vm h L X K hC S_x1
    replace E_x1 := E_x1.keep K
    replace lt_x1 := Nat.lt_of_lt_of_le lt_x1 K.1
    replace V_b1 := V_b1.keep K (ninS (Ne.symm ne_x1_b1) nin0)
    replace lt_b1 := Nat.lt_of_lt_of_le lt_b1 K.1
    exact X.retAC rfl rfl d1_38 (by decide) (by decide) ⟨_, rfl, x1, [], rfl, s_x1, S_x1⟩
  · refine X.ifY (pc' := 39) d1_25 ((if0 _ _).trans (feq hn0).2) (by decide) (by decide) ?_
    refine X.iloadN (pc' := 40) d1_39 rfl rfl ?_
    refine X.iconst (pc' := 41) (1 : Int32) d1_40 rfl rfl ?_
    by_cases hn1 : n = 1
    · refine X.icN (pc' := 44) d1_41 ((teq hn1).2) rfl ?_
      refine X.iconst (pc' := 45) (1 : Int32) d1_44 rfl rfl ?_
      refine X.newP (pc' := 47) (aty := .char) (wd7 hw) d1_45 (by decide) 1 (by decide) (by decide) (by decide) (by decide) rfl ?_
      intro T h b1 ka_b1 g_b1 Ex lt_b1 V_b1 X1
      have z_b1 : Z.heap.size ≤ b1 := by rw [g_b1]; exact X.old.1
      have s_b1 : s.heap.size ≤ b1 := by rw [g_b1]; exact X.kp.1
      replace X := X1
      replace V_b1 : Arv Z h b1 ka_b1 .char (1 : Int32) [(.int (0 : Int32))] (.int (0 : Int32)) := (Arv.pad V_b1 (pad_rep [] (.int (0 : Int32)) 1))
      refine X.astore (pc' := 49) #[.val (.int p1), .val (.int n), .val (.int c0), .val (.int c1), .val (.ref b1)] d1_47 rfl rfl rfl ?_
      refine X.aload (pc' := 51) d1_49 rfl rfl rfl ?_
      refine X.iconst (pc' := 52) (0 : Int32) d1_51 rfl rfl ?_
      refine X.iloadN (pc' := 53) d1_52 rfl rfl ?_
      refine X.castore (pc' := 54) V_b1 ⟨by decide, by decide⟩ 0 rfl (Nat.le_of_ble_eq_true rfl) z_b1 (Or.inr s_b1) d1_53 rfl ?_
      intro T h L X W V1
      rw [r_c0.2] at V1
      replace lt_b1 := Nat.lt_of_lt_of_le lt_b1 (Keep.of_wr W).1
      replace V_b1 : Arv Z h b1 ka_b1 .char (1 : Int32) [(.int c0)] (.int (0 : Int32)) := V1
      refine X.newO (pc' := 57) (wd4 hw) (wd5 hw) (wd6 hw) d1_54 (by decide) (by decide) rfl ?_
      intro T h x1 g_x1 Ex lt_x1 E_x1 D_x1 X1
      have z_x1 : Z.heap.size ≤ x1 := by rw [g_x1]; exact X.old.1
      have s_x1 : s.heap.size ≤ x1 := by rw [g_x1]; exact X.kp.1
      have ne_b1_x1 : b1 ≠ x1 := Nat.ne_of_lt (by rw [g_x1]; exact lt_b1)
      replace V_b1 := V_b1.ext Ex
      replace lt_b1 := Nat.lt_of_lt_of_le lt_b1 Ex.1
      replace X := X1
      have F_x1_value : Fld Z h x1 "java/lang/String" "value" "[B" .null := D_x1 (Or.inr (wd20 hw)) (ty := (.array .byte)) (by decide)
      have F_x1_coder : Fld Z h x1 "java/lang/String" "coder" "B" (.int (0 : Int32)) := D_x1 (Or.inr (wd21 hw)) (ty := .byte) (by decide)
      refine X.dup (pc' := 58) d1_57 rfl rfl ?_
      refine X.aload (pc' := 60) d1_58 rfl rfl rfl ?_
      refine X.newStr (pc' := 63) (cs := [c0]) (n := 1) (X.sSpecial rfl (wd8 hw) (wd9 hw) (wd10 hw) (by decide) rfl pd1 [(.ref b1)] rfl rfl d1_60) hws (wd5 hw) E_x1 F_x1_value F_x1_coder V_b1 O2 hz rfl rfl (by decide) (by decide) (all1 r_c0.1) (leB rfl) (leB rfl) (leB rfl) (leB rfl) z_x1 (Or.inr s_x1) rfl ?_
      intro T h L X K S_x1
      replace V_b1 := V_b1.keep K (ninS ne_b1_x1 nin0)
      replace lt_b1 := Nat.lt_of_lt_of_le lt_b1 K.1
      replace E_x1 := E_x1.keep K
      replace lt_x1 := Nat.lt_of_lt_of_le lt_x1 K.1
      exact X.retAC rfl rfl d1_63 (by decide) (by decide) ⟨_, rfl, x1, [c0], rfl, s_x1, S_x1⟩
    · refine X.icY (pc' := 64) d1_41 ((feq hn1).2) (by decide) (by decide) ?_
      refine X.iconst (pc' := 65) (2 : Int32) d1_64 rfl rfl ?_
      refine X.newP (pc' := 67) (aty := .char) (wd7 hw) d1_65 (by decide) 2 (by decide) (by decide) (by decide) (by decide) rfl ?_
      intro T h b1 ka_b1 g_b1 Ex lt_b1 V_b1 X1
      have z_b1 : Z.heap.size ≤ b1 := by rw [g_b1]; exact X.old.1
      have s_b1 : s.heap.size ≤ b1 := by rw [g_b1]; exact X.kp.1
      replace X := X1
      replace V_b1 : Arv Z h b1 ka_b1 .char (2 : Int32) [(.int (0 : Int32)), (.int (0 : Int32))] (.int (0 : Int32)) := (Arv.pad V_b1 (pad_rep [] (.int (0 : Int32)) 2))
      refine X.astore (pc' := 69) #[.val (.int p1), .val (.int n), .val (.int c0), .val (.int c1), .val (.ref b1)] d1_67 rfl rfl rfl ?_
      refine X.aload (pc' := 71) d1_69 rfl rfl rfl ?_
      refine X.iconst (pc' := 72) (0 : Int32) d1_71 rfl rfl ?_
      refine X.iloadN (pc' := 73) d1_72 rfl rfl ?_
      refine X.castore (pc' := 74) V_b1 ⟨by decide, by decide⟩ 0 rfl (Nat.le_of_ble_eq_true rfl) z_b1 (Or.inr s_b1) d1_73 rfl ?_
      intro T h L X W V1
      rw [r_c0.2] at V1
      replace lt_b1 := Nat.lt_of_lt_of_le lt_b1 (Keep.of_wr W).1
      replace V_b1 : Arv Z h b1 ka_b1 .char (2 : Int32) [(.int c0), (.int (0 : Int32))] (.int (0 : Int32)) := V1
      refine X.aload (pc' := 76) d1_74 rfl rfl rfl ?_
      refine X.iconst (pc' := 77) (1 : Int32) d1_76 rfl rfl ?_
      refine X.iloadN (pc' := 78) d1_77 rfl rfl ?_
      refine X.castore (pc' := 79) V_b1 ⟨by decide, by decide⟩ 1 rfl (Nat.le_of_ble_eq_true rfl) z_b1 (Or.inr s_b1) d1_78 rfl ?_
      intro T h L X W V1
      rw [r_c1.2] at V1
      replace lt_b1 := Nat.lt_of_lt_of_le lt_b1 (Keep.of_wr W).1
      replace V_b1 : Arv Z h b1 ka_b1 .char (2 : Int32) [(.int c0), (.int c1)] (.int (0 : Int32)) := V1
      refine X.newO (pc' := 82) (wd4 hw) (wd5 hw) (wd6 hw) d1_79 (by decide) (by decide) rfl ?_
      intro T h x1 g_x1 Ex lt_x1 E_x1 D_x1 X1
      have z_x1 : Z.heap.size ≤ x1 := by rw [g_x1]; exact X.old.1
      have s_x1 : s.heap.size ≤ x1 := by rw [g_x1]; exact X.kp.1
      have ne_b1_x1 : b1 ≠ x1 := Nat.ne_of_lt (by rw [g_x1]; exact lt_b1)
      replace V_b1 := V_b1.ext Ex
      replace lt_b1 := Nat.lt_of_lt_of_le lt_b1 Ex.1
      replace X := X1
      have F_x1_value : Fld Z h x1 "java/lang/String" "value" "[B" .null := D_x1 (Or.inr (wd20 hw)) (ty := (.array .byte)) (by decide)
      have F_x1_coder : Fld Z h x1 "java/lang/String" "coder" "B" (.int (0 : Int32)) := D_x1 (Or.inr (wd21 hw)) (ty := .byte) (by decide)
      refine X.dup (pc' := 83) d1_82 rfl rfl ?_
      refine X.aload (pc' := 85) d1_83 rfl rfl rfl ?_
      refine X.newStr (pc' := 88) (cs := [c0, c1]) (n := 2) (X.sSpecial rfl (wd8 hw) (wd9 hw) (wd10 hw) (by decide) rfl pd1 [(.ref b1)] rfl rfl d1_85) hws (wd5 hw) E_x1 F_x1_value F_x1_coder V_b1 O2 hz rfl rfl (by decide) (by decide) (allC r_c0.1 (all1 r_c1.1)) (leB rfl) (leB rfl) (leB rfl) (leB rfl) z_x1 (Or.inr s_x1) rfl ?_
      intro T h L X K S_x1
      replace V_b1 := V_b1.keep K (ninS ne_b1_x1 nin0)
      replace lt_b1 := Nat.lt_of_lt_of_le lt_b1 K.1
      replace E_x1 := E_x1.keep K
      replace lt_x1 := Nat.lt_of_lt_of_le lt_x1 K.1
      exact X.retAC rfl rfl d1_88 (by decide) (by decide) ⟨_, rfl, x1, [c0, c1], rfl, s_x1, S_x1⟩
set_option maxRecDepth 65536 in
set_option maxHeartbeats 40000000 in
theorem ef_rmRec (m : MethodId) (a1 : Addr) : entryFrame m #[(.ref a1)] 1 = mkF m 0 #[.val (.ref a1)] [] := by first | (simp [entryFrame, mkF, argsToLocals, Value.category]; done) | (rfl)
set_option maxRecDepth 65536 in
set_option maxHeartbeats 40000000 in
theorem rmRec (l : Launch) (Z : State) (a0 : Array Value) (hw : ∀ d ∈ tables_1, d.before a0 Z = true) (a1 : Addr) (h0 : Heap) (O : Ext Z.heap h0)  :
    MN l Z (⟨"java/lang/Record", "<init>", "()V"⟩ : MethodName) jdk_30_method_1_code 1 none [] ({ frames := 1, cells := 0, slots := 0, locals := 12 } : Room) #[(.ref a1)] h0 [] (RO h0) := by
  refine MN.mk (a0 := a0) rfl rfl (plainFor_of_name pn2) O (fun m => ef_rmRec m a1) ?_
  intro pg ev s m below meth cd T hh X
  subst hh
  refine X.aloadN (pc' := 1) d6_0 rfl rfl rfl ?_
  refine X.initO (pc' := 4) (wd37 hw) (wd16 hw) (wd17 hw) rfl d6_1 (leB rfl) (leB rfl) rfl ?_
  intro T X
  exact X.retUN d6_4 (by decide) (by decide) ⟨rfl, rfl⟩
set_option maxRecDepth 65536 in
set_option maxHeartbeats 40000000 in
theorem ef_rmOptI (m : MethodId) (a1 : Addr) (v2 : Value) (hv2 : v2.isRef = true) (v3 : Value) (hv3 : v3.isRef = true) (v4 : Value) (hv4 : v4.isRef = true) (p5 : Int32) (p6 : Int32) (v7 : Value) (hv7 : v7.isRef = true) : entryFrame m #[(.ref a1), v2, v3, v4, (.int p5), (.int p6), v7] 7 = mkF m 0 #[.val (.ref a1), .val v2, .val v3, .val v4, .val (.int p5), .val (.int p6), .val v7] [] := by first | (simp [entryFrame, mkF, argsToLocals, Value.category, catR hv2, catR hv3, catR hv4, catR hv7]; done) | (rcases ref_cases hv2 with rfl | ⟨_, rfl⟩ <;> rcases ref_cases hv3 with rfl | ⟨_, rfl⟩ <;> rcases ref_cases hv4 with rfl | ⟨_, rfl⟩ <;> rcases ref_cases hv7 with rfl | ⟨_, rfl⟩ <;> rfl)
set_option maxRecDepth 65536 in
set_option maxHeartbeats 40000000 in
theorem rmOptI (l : Launch) (Z : State) (a0 : Array Value) (hw : ∀ d ∈ tables_1, d.before a0 Z = true) (a1 : Addr) (v2 : Value) (hv2 : v2.isRef = true) (v3 : Value) (hv3 : v3.isRef = true) (v4 : Value) (hv4 : v4.isRef = true) (p5 : Int32) (p6 : Int32) (v7 : Value) (hv7 : v7.isRef = true) (h0 : Heap) (O : Ext Z.heap h0) (b5 : narrow .boolean (.int p5) = .int p5 ∧ fits .boolean (.int p5) = true) (b6 : narrow .boolean (.int p6) = .int p6 ∧ fits .boolean (.int p6) = true) (za : Z.heap.size ≤ a1) (E_a1 : Exa Z h0 a1 "com/example/hord/hord/command/Option") (F_a1_name : Fld Z h0 a1 "com/example/hord/hord/command/Option" "name" "Ljava/lang/String;" .null) (F_a1_value : Fld Z h0 a1 "com/example/hord/hord/command/Option" "value" "Ljava/lang/String;" .null) (F_a1_defaultValue : Fld Z h0 a1 "com/example/hord/hord/command/Option" "defaultValue" "Ljava/lang/String;" .null) (F_a1_required : Fld Z h0 a1 "com/example/hord/hord/command/Option" "required" "Z" (.int (0 : Int32))) (F_a1_repeatable : Fld Z h0 a1 "com/example/hord/hord/command/Option" "repeatable" "Z" (.int (0 : Int32))) (F_a1_description : Fld Z h0 a1 "com/example/hord/hord/command/Option" "description" "Ljava/lang/String;" .null) :
    MN l Z (⟨"com/example/hord/hord/command/Option", "<init>", "(Ljava/lang/String;Ljava/lang/String;Ljava/lang/String;ZZLjava/lang/String;)V"⟩ : MethodName) prog_21_method_1_code 7 none [] ({ frames := 2, cells := 0, slots := 0, locals := 40 } : Room) #[(.ref a1), v2, v3, v4, (.int p5), (.int p6), v7] h0 [a1] (RU (fun h => Exa Z h a1 "com/example/hord/hord/command/Option" ∧ Fld Z h a1 "com/example/hord/hord/command/Option" "name" "Ljava/lang/String;" v2 ∧ Fld Z h a1 "com/example/hord/hord/command/Option" "value" "Ljava/lang/String;" v3 ∧ Fld Z h a1 "com/example/hord/hord/command/Option" "defaultValue" "Ljava/lang/String;" v4 ∧ Fld Z h a1 "com/example/hord/hord/command/Option" "required" "Z" (.int p5) ∧ Fld Z h a1 "com/example/hord/hord/command/Option" "repeatable" "Z" (.int p6) ∧ Fld Z h a1 "com/example/hord/hord/command/Option" "description" "Ljava/lang/String;" v7)) := by
  refine MN.mk (a0 := a0) rfl rfl (plainFor_of_name pn3) O (fun m => ef_rmOptI m a1 v2 hv2 v3 hv3 v4 hv4 p5 p6 v7 hv7) ?_
  intro pg ev s m below meth cd T hh X
  subst hh
  refine X.aloadN (pc' := 1) d5_0 rfl rfl rfl ?_
  refine X.callO (pc' := 4) (X.sSpecial rfl (wd32 hw) (wd33 hw) (wd36 hw) (by decide) rfl pd2 [] rfl rfl d5_1) (rmRec l Z a0 hw a1 _ O) (wd36 hw) (wd35 hw) (leB rfl) (leB rfl) (leB rfl) (leB rfl) rfl ?_
  intro T L X
  refine X.aloadN (pc' := 5) d5_4 rfl rfl rfl ?_
  refine X.aloadN (pc' := 6) d5_5 rfl hv2 rfl ?_
  refine X.putF (pc' := 9) (wd38 hw) Via.refl F_a1_name E_a1 (Or.inr ⟨(wd39 hw), rfl, rfl⟩) (wd27 hw) (.object "java/lang/String") (by decide) (narR hv2) (fitR hv2) safeE za (Or.inl (List.mem_of_getElem? (i := 0) rfl)) d5_6 rfl ?_
  intro T h L X W
  replace F_a1_value := F_a1_value.other W (Or.inr (slot_ne (Or.inr (wd41 hw)) (Or.inr (wd39 hw)) (by decide) (t := (.object "java/lang/String")) (t' := (.object "java/lang/String")) (by decide) (by decide)))
  replace F_a1_defaultValue := F_a1_defaultValue.other W (Or.inr (slot_ne (Or.inr (wd43 hw)) (Or.inr (wd39 hw)) (by decide) (t := (.object "java/lang/String")) (t' := (.object "java/lang/String")) (by decide) (by decide)))
  replace F_a1_required := F_a1_required.other W (Or.inr (slot_ne (Or.inr (wd45 hw)) (Or.inr (wd39 hw)) (by decide) (t := .boolean) (t' := (.object "java/lang/String")) (by decide) (by decide)))
  replace F_a1_repeatable := F_a1_repeatable.other W (Or.inr (slot_ne (Or.inr (wd47 hw)) (Or.inr (wd39 hw)) (by decide) (t := .boolean) (t' := (.object "java/lang/String")) (by decide) (by decide)))
  replace F_a1_description := F_a1_description.other W (Or.inr (slot_ne (Or.inr (wd49 hw)) (Or.inr (wd39 hw)) (by decide) (t := (.object "java/lang/String")) (t' := (.object "java/lang/String")) (by decide) (by decide)))
  replace E_a1 := E_a1.wr W
  replace F_a1_name := F_a1_name.same W
  refine X.aloadN (pc' := 10) d5_9 rfl rfl rfl ?_
  refine X.aloadN (pc' := 11) d5_10 rfl hv3 rfl ?_
  refine X.putF (pc' := 14) (wd40 hw) Via.refl F_a1_value E_a1 (Or.inr ⟨(wd41 hw), rfl, rfl⟩) (wd27 hw) (.object "java/lang/String") (by decide) (narR hv3) (fitR hv3) safeE za (Or.inl (List.mem_of_getElem? (i := 0) rfl)) d5_11 rfl ?_
  intro T h L X W
  replace F_a1_name := F_a1_name.other W (Or.inr (slot_ne (Or.inr (wd39 hw)) (Or.inr (wd41 hw)) (by decide) (t := (.object "java/lang/String")) (t' := (.object "java/lang/String")) (by decide) (by decide)))
  replace F_a1_defaultValue := F_a1_defaultValue.other W (Or.inr (slot_ne (Or.inr (wd43 hw)) (Or.inr (wd41 hw)) (by decide) (t := (.object "java/lang/String")) (t' := (.object "java/lang/String")) (by decide) (by decide)))
  replace F_a1_required := F_a1_required.other W (Or.inr (slot_ne (Or.inr (wd45 hw)) (Or.inr (wd41 hw)) (by decide) (t := .boolean) (t' := (.object "java/lang/String")) (by decide) (by decide)))
  replace F_a1_repeatable := F_a1_repeatable.other W (Or.inr (slot_ne (Or.inr (wd47 hw)) (Or.inr (wd41 hw)) (by decide) (t := .boolean) (t' := (.object "java/lang/String")) (by decide) (by decide)))
  replace F_a1_description := F_a1_description.other W (Or.inr (slot_ne (Or.inr (wd49 hw)) (Or.inr (wd41 hw)) (by decide) (t := (.object "java/lang/String")) (t' := (.object "java/lang/String")) (by decide) (by decide)))
  replace E_a1 := E_a1.wr W
  replace F_a1_value := F_a1_value.same W
  refine X.aloadN (pc' := 15) d5_14 rfl rfl rfl ?_
  refine X.aloadN (pc' := 16) d5_15 rfl hv4 rfl ?_
  refine X.putF (pc' := 19) (wd42 hw) Via.refl F_a1_defaultValue E_a1 (Or.inr ⟨(wd43 hw), rfl, rfl⟩) (wd27 hw) (.object "java/lang/String") (by decide) (narR hv4) (fitR hv4) safeE za (Or.inl (List.mem_of_getElem? (i := 0) rfl)) d5_16 rfl ?_
  intro T h L X W
  replace F_a1_name := F_a1_name.other W (Or.inr (slot_ne (Or.inr (wd39 hw)) (Or.inr (wd43 hw)) (by decide) (t := (.object "java/lang/String")) (t' := (.object "java/lang/String")) (by decide) (by decide)))
  replace F_a1_value := F_a1_value.other W (Or.inr (slot_ne (Or.inr (wd41 hw)) (Or.inr (wd43 hw)) (by decide) (t := (.object "java/lang/String")) (t' := (.object "java/lang/String")) (by decide) (by decide)))
  replace F_a1_required := F_a1_required.other W (Or.inr (slot_ne (Or.inr (wd45 hw)) (Or.inr (wd43 hw)) (by decide) (t := .boolean) (t' := (.object "java/lang/String")) (by decide) (by decide)))
  replace F_a1_repeatable := F_a1_repeatable.other W (Or.inr (slot_ne (Or.inr (wd47 hw)) (Or.inr (wd43 hw)) (by decide) (t := .boolean) (t' := (.object "java/lang/String")) (by decide) (by decide)))
  replace F_a1_description := F_a1_description.other W (Or.inr (slot_ne (Or.inr (wd49 hw)) (Or.inr (wd43 hw)) (by decide) (t := (.object "java/lang/String")) (t' := (.object "java/lang/String")) (by decide) (by decide)))
  replace E_a1 := E_a1.wr W
  replace F_a1_defaultValue := F_a1_defaultValue.same W
  refine X.aloadN (pc' := 20) d5_19 rfl rfl rfl ?_
  refine X.iload (pc' := 22) d5_20 rfl rfl ?_
  refine X.putF (pc' := 25) (wd44 hw) Via.refl F_a1_required E_a1 (Or.inr ⟨(wd45 hw), rfl, rfl⟩) (wd27 hw) .boolean (by decide) b5.1 b5.2 safeE za (Or.inl (List.mem_of_getElem? (i := 0) rfl)) d5_22 rfl ?_
  intro T h L X W
  replace F_a1_name := F_a1_name.other W (Or.inr (slot_ne (Or.inr (wd39 hw)) (Or.inr (wd45 hw)) (by decide) (t := (.object "java/lang/String")) (t' := .boolean) (by decide) (by decide)))
  replace F_a1_value := F_a1_value.other W (Or.inr (slot_ne (Or.inr (wd41 hw)) (Or.inr (wd45 hw)) (by decide) (t := (.object "java/lang/String")) (t' := .boolean) (by decide) (by decide)))
  replace F_a1_defaultValue := F_a1_defaultValue.other W (Or.inr (slot_ne (Or.inr (wd43 hw)) (Or.inr (wd45 hw)) (by decide) (t := (.object "java/lang/String")) (t' := .boolean) (by decide) (by decide)))
  replace F_a1_repeatable := F_a1_repeatable.other W (Or.inr (slot_ne (Or.inr (wd47 hw)) (Or.inr (wd45 hw)) (by decide) (t := .boolean) (t' := .boolean) (by decide) (by decide)))
  replace F_a1_description := F_a1_description.other W (Or.inr (slot_ne (Or.inr (wd49 hw)) (Or.inr (wd45 hw)) (by decide) (t := (.object "java/lang/String")) (t' := .boolean) (by decide) (by decide)))
  replace E_a1 := E_a1.wr W
  replace F_a1_required := F_a1_required.same W
  refine X.aloadN (pc' := 26) d5_25 rfl rfl rfl ?_
  refine X.iload (pc' := 28) d5_26 rfl rfl ?_
  refine X.putF (pc' := 31) (wd46 hw) Via.refl F_a1_repeatable E_a1 (Or.inr ⟨(wd47 hw), rfl, rfl⟩) (wd27 hw) .boolean (by decide) b6.1 b6.2 safeE za (Or.inl (List.mem_of_getElem? (i := 0) rfl)) d5_28 rfl ?_
  intro T h L X W
  replace F_a1_name := F_a1_name.other W (Or.inr (slot_ne (Or.inr (wd39 hw)) (Or.inr (wd47 hw)) (by decide) (t := (.object "java/lang/String")) (t' := .boolean) (by decide) (by decide)))
  replace F_a1_value := F_a1_value.other W (Or.inr (slot_ne (Or.inr (wd41 hw)) (Or.inr (wd47 hw)) (by decide) (t := (.object "java/lang/String")) (t' := .boolean) (by decide) (by decide)))
  replace F_a1_defaultValue := F_a1_defaultValue.other W (Or.inr (slot_ne (Or.inr (wd43 hw)) (Or.inr (wd47 hw)) (by decide) (t := (.object "java/lang/String")) (t' := .boolean) (by decide) (by decide)))
  replace F_a1_required := F_a1_required.other W (Or.inr (slot_ne (Or.inr (wd45 hw)) (Or.inr (wd47 hw)) (by decide) (t := .boolean) (t' := .boolean) (by decide) (by decide)))
  replace F_a1_description := F_a1_description.other W (Or.inr (slot_ne (Or.inr (wd49 hw)) (Or.inr (wd47 hw)) (by decide) (t := (.object "java/lang/String")) (t' := .boolean) (by decide) (by decide)))
  replace E_a1 := E_a1.wr W
  replace F_a1_repeatable := F_a1_repeatable.same W
  refine X.aloadN (pc' := 32) d5_31 rfl rfl rfl ?_
  refine X.aload (pc' := 34) d5_32 rfl hv7 rfl ?_
  refine X.putF (pc' := 37) (wd48 hw) Via.refl F_a1_description E_a1 (Or.inr ⟨(wd49 hw), rfl, rfl⟩) (wd27 hw) (.object "java/lang/String") (by decide) (narR hv7) (fitR hv7) safeE za (Or.inl (List.mem_of_getElem? (i := 0) rfl)) d5_34 rfl ?_
  intro T h L X W
  replace F_a1_name := F_a1_name.other W (Or.inr (slot_ne (Or.inr (wd39 hw)) (Or.inr (wd49 hw)) (by decide) (t := (.object "java/lang/String")) (t' := (.object "java/lang/String")) (by decide) (by decide)))
  replace F_a1_value := F_a1_value.other W (Or.inr (slot_ne (Or.inr (wd41 hw)) (Or.inr (wd49 hw)) (by decide) (t := (.object "java/lang/String")) (t' := (.object "java/lang/String")) (by decide) (by decide)))
  replace F_a1_defaultValue := F_a1_defaultValue.other W (Or.inr (slot_ne (Or.inr (wd43 hw)) (Or.inr (wd49 hw)) (by decide) (t := (.object "java/lang/String")) (t' := (.object "java/lang/String")) (by decide) (by decide)))
  replace F_a1_required := F_a1_required.other W (Or.inr (slot_ne (Or.inr (wd45 hw)) (Or.inr (wd49 hw)) (by decide) (t := .boolean) (t' := (.object "java/lang/String")) (by decide) (by decide)))
  replace F_a1_repeatable := F_a1_repeatable.other W (Or.inr (slot_ne (Or.inr (wd47 hw)) (Or.inr (wd49 hw)) (by decide) (t := .boolean) (t' := (.object "java/lang/String")) (by decide) (by decide)))
  replace E_a1 := E_a1.wr W
  replace F_a1_description := F_a1_description.same W
  exact X.retUN d5_37 (by decide) (by decide) ⟨rfl, E_a1, F_a1_name, F_a1_value, F_a1_defaultValue, F_a1_required, F_a1_repeatable, F_a1_description⟩
set_option maxRecDepth 65536 in
set_option maxHeartbeats 40000000 in
theorem ef_rmRep (m : MethodId) (a1 : Addr) : entryFrame m #[(.ref a1)] 1 = mkF m 0 #[.val (.ref a1)] [] := by first | (simp [entryFrame, mkF, argsToLocals, Value.category]; done) | (rfl)
set_option maxRecDepth 65536 in
set_option maxHeartbeats 40000000 in
theorem rmRep (l : Launch) (Z : State) (a0 : Array Value) (hw : ∀ d ∈ tables_1, d.before a0 Z = true) (a1 : Addr) (h0 : Heap) (O : Ext Z.heap h0) (v2 v3 v4 v7 : Value) (hv2 : v2.isRef = true) (hv3 : v3.isRef = true) (hv4 : v4.isRef = true) (hv7 : v7.isRef = true) (p5 p6 : Int32) (b5 : narrow .boolean (.int p5) = .int p5 ∧ fits .boolean (.int p5) = true) (E_a1 : Exa Z h0 a1 "com/example/hord/hord/command/Option") (F_a1_name : Fld Z h0 a1 "com/example/hord/hord/command/Option" "name" "Ljava/lang/String;" v2) (F_a1_value : Fld Z h0 a1 "com/example/hord/hord/command/Option" "value" "Ljava/lang/String;" v3) (F_a1_defaultValue : Fld Z h0 a1 "com/example/hord/hord/command/Option" "defaultValue" "Ljava/lang/String;" v4) (F_a1_required : Fld Z h0 a1 "com/example/hord/hord/command/Option" "required" "Z" (.int p5)) (F_a1_repeatable : Fld Z h0 a1 "com/example/hord/hord/command/Option" "repeatable" "Z" (.int p6)) (F_a1_description : Fld Z h0 a1 "com/example/hord/hord/command/Option" "description" "Ljava/lang/String;" v7) :
    MN l Z (⟨"com/example/hord/hord/command/Option", "toRepeatable", "()Lcom/example/hord/hord/command/Option;"⟩ : MethodName) prog_21_method_7_code 1 (some (.object "com/example/hord/hord/command/Option")) [] ({ frames := 3, cells := 1, slots := 6, locals := 80 } : Room) #[(.ref a1)] h0 [] (RV (fun w h => ∃ o, w = .ref o ∧ h0.size ≤ o ∧ Exa Z h o "com/example/hord/hord/command/Option" ∧ Fld Z h o "com/example/hord/hord/command/Option" "name" "Ljava/lang/String;" v2 ∧ Fld Z h o "com/example/hord/hord/command/Option" "value" "Ljava/lang/String;" v3 ∧ Fld Z h o "com/example/hord/hord/command/Option" "defaultValue" "Ljava/lang/String;" v4 ∧ Fld Z h o "com/example/hord/hord/command/Option" "required" "Z" (.int p5) ∧ Fld Z h o "com/example/hord/hord/command/Option" "repeatable" "Z" (.int 1) ∧ Fld Z h o "com/example/hord/hord/command/Option" "description" "Ljava/lang/String;" v7)) := by
  refine MN.mk (a0 := a0) rfl rfl (plainFor_of_name pn3) O (fun m => ef_rmRep m a1) ?_
  intro pg ev s m below meth cd T hh X
  subst hh
  have lt_a1 := E_a1.lt
  refine X.newO (pc' := 3) (wd55 hw) (wd27 hw) (wd28 hw) d7_0 (by decide) (by decide) rfl ?_
  intro T h o g_o Ex lt_o E_o D_o X1
  have z_o : Z.heap.size ≤ o := by rw [g_o]; exact X.old.1
  have s_o : s.heap.size ≤ o := by rw [g_o]; exact X.kp.1
  have ne_a1_o : a1 ≠ o := Nat.ne_of_lt (by rw [g_o]; exact lt_a1)
  replace F_a1_name := F_a1_name.ext Ex
  replace F_a1_value := F_a1_value.ext Ex
  replace F_a1_defaultValue := F_a1_defaultValue.ext Ex
  replace F_a1_required := F_a1_required.ext Ex
  replace F_a1_repeatable := F_a1_repeatable.ext Ex
  replace F_a1_description := F_a1_description.ext Ex
  replace E_a1 := E_a1.ext Ex
  replace lt_a1 := Nat.lt_of_lt_of_le lt_a1 Ex.1
  replace X := X1
  have F_o_name : Fld Z h o "com/example/hord/hord/command/Option" "name" "Ljava/lang/String;" .null := D_o (Or.inr (wd39 hw)) (ty := (.object "java/lang/String")) (by decide)
  have F_o_value : Fld Z h o "com/example/hord/hord/command/Option" "value" "Ljava/lang/String;" .null := D_o (Or.inr (wd41 hw)) (ty := (.object "java/lang/String")) (by decide)
  have F_o_defaultValue : Fld Z h o "com/example/hord/hord/command/Option" "defaultValue" "Ljava/lang/String;" .null := D_o (Or.inr (wd43 hw)) (ty := (.object "java/lang/String")) (by decide)
  have F_o_required : Fld Z h o "com/example/hord/hord/command/Option" "required" "Z" (.int (0 : Int32)) := D_o (Or.inr (wd45 hw)) (ty := .boolean) (by decide)
  have F_o_repeatable : Fld Z h o "com/example/hord/hord/command/Option" "repeatable" "Z" (.int (0 : Int32)) := D_o (Or.inr (wd47 hw)) (ty := .boolean) (by decide)
  have F_o_description : Fld Z h o "com/example/hord/hord/command/Option" "description" "Ljava/lang/String;" .null := D_o (Or.inr (wd49 hw)) (ty := (.object "java/lang/String")) (by decide)
  refine X.dup (pc' := 4) d7_3 rfl rfl ?_
  refine X.aloadN (pc' := 5) d7_4 rfl rfl rfl ?_
  refine X.getF (pc' := 8) (wd38 hw) Via.refl F_a1_name d7_5 rfl ?_
  intro T X
  refine X.aloadN (pc' := 9) d7_8 rfl rfl rfl ?_
  refine X.getF (pc' := 12) (wd40 hw) Via.refl F_a1_value d7_9 rfl ?_
  intro T X
  refine X.aloadN (pc' := 13) d7_12 rfl rfl rfl ?_
  refine X.getF (pc' := 16) (wd42 hw) Via.refl F_a1_defaultValue d7_13 rfl ?_
  intro T X
  refine X.aloadN (pc' := 17) d7_16 rfl rfl rfl ?_
  refine X.getF (pc' := 20) (wd44 hw) Via.refl F_a1_required d7_17 rfl ?_
  intro T X
  refine X.iconst (pc' := 21) (1 : Int32) d7_20 rfl rfl ?_
  refine X.aloadN (pc' := 22) d7_21 rfl rfl rfl ?_
  refine X.getF (pc' := 25) (wd48 hw) Via.refl F_a1_description d7_22 rfl ?_
  intro T X
  refine X.callU (pc' := 28) (X.sSpecial rfl (wd56 hw) (wd30 hw) (wd31 hw) (by decide) rfl pd3 [v2, v3, v4, (.int p5), (.int (1 : Int32)), v7] rfl rfl d7_25) (rmOptI l Z a0 hw o v2 hv2 v3 hv3 v4 hv4 p5 (1 : Int32) v7 hv7 _ X.old b5 ⟨rfl, rfl⟩ z_o E_o F_o_name F_o_value F_o_defaultValue F_o_required F_o_repeatable F_o_description) (wd31 hw) (wd28 hw) (leB rfl) (leB rfl) (leB rfl) (leB rfl) (sfS safeE sf0) (allS z_o all0) (allS (Or.inr s_o) all0) rfl ?_
  intro T h L X K q
  exact X.retAN rfl rfl d7_28 (by decide) (by decide) ⟨_, rfl, o, rfl, s_o, q⟩
set_option maxRecDepth 65536 in
set_option maxHeartbeats 40000000 in
theorem ef_rmG_name (m : MethodId) (a1 : Addr) : entryFrame m #[(.ref a1)] 1 = mkF m 0 #[.val (.ref a1)] [] := by first | (simp [entryFrame, mkF, argsToLocals, Value.category]; done) | (rfl)
set_option maxRecDepth 65536 in
set_option maxHeartbeats 40000000 in
theorem rmG_name (l : Launch) (Z : State) (a0 : Array Value) (hw : ∀ d ∈ tables_1, d.before a0 Z = true) (a1 : Addr) (h0 : Heap) (O : Ext Z.heap h0) (v : Value) (hv : v.isRef = true) (F : Fld Z h0 a1 "com/example/hord/hord/command/Option" "name" "Ljava/lang/String;" v) :
    MN l Z (⟨"com/example/hord/hord/command/Option", "name", "()Ljava/lang/String;"⟩ : MethodName) prog_21_method_11_code 1 (some (.object "java/lang/String")) [] ({ frames := 0, cells := 0, slots := 0, locals := 0 } : Room) #[(.ref a1)] h0 [] (RP h0 (fun w => w = v)) := by
  refine MN.mk (a0 := a0) rfl rfl (plainFor_of_name pn3) O (fun m => ef_rmG_name m a1) ?_
  intro pg ev s m below meth cd T hh X
  subst hh
  refine X.aloadN (pc' := 1) d10_0 rfl rfl rfl ?_
  refine X.getF (pc' := 4) (wd38 hw) Via.refl F d10_1 rfl ?_
  intro T X
  exact X.retAN rfl hv d10_4 (by decide) (by decide) ⟨_, rfl, rfl, rfl⟩
set_option maxRecDepth 65536 in
set_option maxHeartbeats 40000000 in
theorem ef_rmG_value (m : MethodId) (a1 : Addr) : entryFrame m #[(.ref a1)] 1 = mkF m 0 #[.val (.ref a1)] [] := by first | (simp [entryFrame, mkF, argsToLocals, Value.category]; done) | (rfl)
set_option maxRecDepth 65536 in
set_option maxHeartbeats 40000000 in
theorem rmG_value (l : Launch) (Z : State) (a0 : Array Value) (hw : ∀ d ∈ tables_1, d.before a0 Z = true) (a1 : Addr) (h0 : Heap) (O : Ext Z.heap h0) (v : Value) (hv : v.isRef = true) (F : Fld Z h0 a1 "com/example/hord/hord/command/Option" "value" "Ljava/lang/String;" v) :
    MN l Z (⟨"com/example/hord/hord/command/Option", "value", "()Ljava/lang/String;"⟩ : MethodName) prog_21_method_12_code 1 (some (.object "java/lang/String")) [] ({ frames := 0, cells := 0, slots := 0, locals := 0 } : Room) #[(.ref a1)] h0 [] (RP h0 (fun w => w = v)) := by
  refine MN.mk (a0 := a0) rfl rfl (plainFor_of_name pn3) O (fun m => ef_rmG_value m a1) ?_
  intro pg ev s m below meth cd T hh X
  subst hh
  refine X.aloadN (pc' := 1) d11_0 rfl rfl rfl ?_
  refine X.getF (pc' := 4) (wd40 hw) Via.refl F d11_1 rfl ?_
  intro T X
  exact X.retAN rfl hv d11_4 (by decide) (by decide) ⟨_, rfl, rfl, rfl⟩
set_option maxRecDepth 65536 in
set_option maxHeartbeats 40000000 in
theorem ef_rmG_defaultValue (m : MethodId) (a1 : Addr) : entryFrame m #[(.ref a1)] 1 = mkF m 0 #[.val (.ref a1)] [] := by first | (simp [entryFrame, mkF, argsToLocals, Value.category]; done) | (rfl)
set_option maxRecDepth 65536 in
set_option maxHeartbeats 40000000 in
theorem rmG_defaultValue (l : Launch) (Z : State) (a0 : Array Value) (hw : ∀ d ∈ tables_1, d.before a0 Z = true) (a1 : Addr) (h0 : Heap) (O : Ext Z.heap h0) (v : Value) (hv : v.isRef = true) (F : Fld Z h0 a1 "com/example/hord/hord/command/Option" "defaultValue" "Ljava/lang/String;" v) :
    MN l Z (⟨"com/example/hord/hord/command/Option", "defaultValue", "()Ljava/lang/String;"⟩ : MethodName) prog_21_method_13_code 1 (some (.object "java/lang/String")) [] ({ frames := 0, cells := 0, slots := 0, locals := 0 } : Room) #[(.ref a1)] h0 [] (RP h0 (fun w => w = v)) := by
  refine MN.mk (a0 := a0) rfl rfl (plainFor_of_name pn3) O (fun m => ef_rmG_defaultValue m a1) ?_
  intro pg ev s m below meth cd T hh X
  subst hh
  refine X.aloadN (pc' := 1) d8_0 rfl rfl rfl ?_
  refine X.getF (pc' := 4) (wd42 hw) Via.refl F d8_1 rfl ?_
  intro T X
  exact X.retAN rfl hv d8_4 (by decide) (by decide) ⟨_, rfl, rfl, rfl⟩
set_option maxRecDepth 65536 in
set_option maxHeartbeats 40000000 in
theorem ef_rmG_description (m : MethodId) (a1 : Addr) : entryFrame m #[(.ref a1)] 1 = mkF m 0 #[.val (.ref a1)] [] := by first | (simp [entryFrame, mkF, argsToLocals, Value.category]; done) | (rfl)
set_option maxRecDepth 65536 in
set_option maxHeartbeats 40000000 in
theorem rmG_description (l : Launch) (Z : State) (a0 : Array Value) (hw : ∀ d ∈ tables_1, d.before a0 Z = true) (a1 : Addr) (h0 : Heap) (O : Ext Z.heap h0) (v : Value) (hv : v.isRef = true) (F : Fld Z h0 a1 "com/example/hord/hord/command/Option" "description" "Ljava/lang/String;" v) :
    MN l Z (⟨"com/example/hord/hord/command/Option", "description", "()Ljava/lang/String;"⟩ : MethodName) prog_21_method_16_code 1 (some (.object "java/lang/String")) [] ({ frames := 0, cells := 0, slots := 0, locals := 0 } : Room) #[(.ref a1)] h0 [] (RP h0 (fun w => w = v)) := by
  refine MN.mk (a0 := a0) rfl rfl (plainFor_of_name pn3) O (fun m => ef_rmG_description m a1) ?_
  intro pg ev s m below meth cd T hh X
  subst hh
  refine X.aloadN (pc' := 1) d14_0 rfl rfl rfl ?_
  refine X.getF (pc' := 4) (wd48 hw) Via.refl F d14_1 rfl ?_
  intro T X
  exact X.retAN rfl hv d14_4 (by decide) (by decide) ⟨_, rfl, rfl, rfl⟩
set_option maxRecDepth 65536 in
set_option maxHeartbeats 40000000 in
theorem ef_rmG_required (m : MethodId) (a1 : Addr) : entryFrame m #[(.ref a1)] 1 = mkF m 0 #[.val (.ref a1)] [] := by first | (simp [entryFrame, mkF, argsToLocals, Value.category]; done) | (rfl)
set_option maxRecDepth 65536 in
set_option maxHeartbeats 40000000 in
theorem rmG_required (l : Launch) (Z : State) (a0 : Array Value) (hw : ∀ d ∈ tables_1, d.before a0 Z = true) (a1 : Addr) (h0 : Heap) (O : Ext Z.heap h0) (v : Int32) (hv : narrow .boolean (.int v) = .int v) (F : Fld Z h0 a1 "com/example/hord/hord/command/Option" "required" "Z" (.int v)) :
    MN l Z (⟨"com/example/hord/hord/command/Option", "required", "()Z"⟩ : MethodName) prog_21_method_14_code 1 (some .boolean) [] ({ frames := 0, cells := 0, slots := 0, locals := 0 } : Room) #[(.ref a1)] h0 [] (RP h0 (fun w => w = .int v)) := by
  refine MN.mk (a0 := a0) rfl rfl (plainFor_of_name pn3) O (fun m => ef_rmG_required m a1) ?_
  intro pg ev s m below meth cd T hh X
  subst hh
  refine X.aloadN (pc' := 1) d12_0 rfl rfl rfl ?_
  refine X.getF (pc' := 4) (wd44 hw) Via.refl F d12_1 rfl ?_
  intro T X
  exact X.retIN (by simp) hv d12_4 (by decide) (by decide) ⟨_, rfl, rfl, rfl⟩
set_option maxRecDepth 65536 in
set_option maxHeartbeats 40000000 in
theorem ef_rmG_repeatable (m : MethodId) (a1 : Addr) : entryFrame m #[(.ref a1)] 1 = mkF m 0 #[.val (.ref a1)] [] := by first | (simp [entryFrame, mkF, argsToLocals, Value.category]; done) | (rfl)
set_option maxRecDepth 65536 in
set_option maxHeartbeats 40000000 in
theorem rmG_repeatable (l : Launch) (Z : State) (a0 : Array Value) (hw : ∀ d ∈ tables_1, d.before a0 Z = true) (a1 : Addr) (h0 : Heap) (O : Ext Z.heap h0) (v : Int32) (hv : narrow .boolean (.int v) = .int v) (F : Fld Z h0 a1 "com/example/hord/hord/command/Option" "repeatable" "Z" (.int v)) :
    MN l Z (⟨"com/example/hord/hord/command/Option", "repeatable", "()Z"⟩ : MethodName) prog_21_method_15_code 1 (some .boolean) [] ({ frames := 0, cells := 0, slots := 0, locals := 0 } : Room) #[(.ref a1)] h0 [] (RP h0 (fun w => w = .int v)) := by
  refine MN.mk (a0 := a0) rfl rfl (plainFor_of_name pn3) O (fun m => ef_rmG_repeatable m a1) ?_
  intro pg ev s m below meth cd T hh X
  subst hh
  refine X.aloadN (pc' := 1) d13_0 rfl rfl rfl ?_
  refine X.getF (pc' := 4) (wd46 hw) Via.refl F d13_1 rfl ?_
  intro T X
  exact X.retIN (by simp) hv d13_4 (by decide) (by decide) ⟨_, rfl, rfl, rfl⟩
set_option maxRecDepth 65536 in
set_option maxHeartbeats 40000000 in
theorem ef_rmEq (m : MethodId) (a1 : Addr) : entryFrame m #[(.ref a1), (.ref a1)] 3 = mkF m 0 #[.val (.ref a1), .val (.ref a1), .unset] [] := by first | (simp [entryFrame, mkF, argsToLocals, Value.category]; done) | (rfl)
set_option maxRecDepth 65536 in
set_option maxHeartbeats 40000000 in
theorem rmEq (l : Launch) (Z : State) (a0 : Array Value) (hw : ∀ d ∈ tables_1, d.before a0 Z = true) (a1 : Addr) (h0 : Heap) (O : Ext Z.heap h0)  :
    MN l Z (⟨"java/lang/String", "equals", "(Ljava/lang/Object;)Z"⟩ : MethodName) jdk_42_method_66_code 3 (some .boolean) [] ({ frames := 0, cells := 0, slots := 0, locals := 0 } : Room) #[(.ref a1), (.ref a1)] h0 [] (RP h0 (fun w => w = .int 1)) := by
  refine MN.mk (a0 := a0) rfl rfl (plainFor_of_name pn0) O (fun m => ef_rmEq m a1) ?_
  intro pg ev s m below meth cd T hh X
  subst hh
  refine X.aloadN (pc' := 1) d9_0 rfl rfl rfl ?_
  refine X.aloadN (pc' := 2) d9_1 rfl rfl rfl ?_
  refine X.acmp (pc' := 5) d9_2 rfl rfl true (by simp) (by decide) (by decide) ?_
  refine X.iconst (pc' := 6) (1 : Int32) d9_5 rfl rfl ?_
  exact X.retIN (by simp) rfl d9_6 (by decide) (by decide) ⟨_, rfl, rfl, rfl⟩
set_option maxRecDepth 65536 in
set_option maxHeartbeats 40000000 in
theorem ef_rm0 (m : MethodId) (p1 : Int32) (p2 : Int32) (p3 : Int32) (p4 : Int32) (p5 : Int32) : entryFrame m #[(.int p1), (.int p2), (.int p3), (.int p4), (.int p5)] maxLocals = mkF m 0 #[.val (.int p1), .val (.int p2), .val (.int p3), .val (.int p4), .val (.int p5), .unset, .unset, .unset, .unset, .unset, .unset, .unset, .unset, .unset] [] := by first | (simp [entryFrame, mkF, argsToLocals, Value.category, maxLocals]; done) | (rfl)
set_option maxRecDepth 65536 in
set_option maxHeartbeats 40000000 in
theorem rm0 (l : Launch) (Z : State) (a0 : Array Value) (hw : ∀ d ∈ tables_1, d.before a0 Z = true) (ew : EW Z a0 consts_1) (p1 : Int32) (p2 : Int32) (p3 : Int32) (p4 : Int32) (p5 : Int32) (h0 : Heap) (O : Ext Z.heap h0) (z : Int32) (O2 : Sta Z Z.heap "java/lang/String" "COMPACT_STRINGS" "Z" (.int z)) (hz : ¬ z = 0) :
    MCc l Z consts_1 x code maxLocals ret tables_1 room_1 #[(.int p1), (.int p2), (.int p3), (.int p4), (.int p5)] h0 [] (RV (fun w h => w = .int 1)) := by
  refine MCc.mk (a0 := a0) rfl rfl (plainFor_of_name pn1) O ew (fun m => ef_rm0 m p1 p2 p3 p4 p5) ?_
  intro pg ev s m below meth cd T hh X
  subst hh
  refine X.iloadN (pc' := 1) at_0 rfl rfl ?_
  refine X.coldV (pc' := 4) (X.sStatic (wd0 hw) (wd1 hw) (wd2 hw) (wd3 hw) (by decide) rfl pd4 [(.int p1)] rfl rfl at_1) (rmStr l Z a0 hw ew p1 _ X.old z O2 hz) (wd3 hw) (wd2 hw) (leB rfl) (leB rfl) (leB rfl) (leB rfl) all0 rfl ?_
  intro T vm h L v X K hC q
  obtain ⟨r1, cs_r1, rfl, le_r1, S_r1⟩ := q
  refine X.astore (pc' := 6) #[.val (.int p1), .val (.int p2), .val (.int p3), .val (.int p4), .val (.int p5), .val (.ref r1), .unset, .unset, .unset, .unset, .unset, .unset, .unset, .unset] at_4 rfl rfl rfl ?_
  refine X.iloadN (pc' := 7) at_6 rfl rfl ?_
  refine X.coldV (pc' := 10) (X.sStatic (wd0 hw) (wd1 hw) (wd2 hw) (wd3 hw) (by decide) rfl pd4 [(.int p2)] rfl rfl at_7) (rmStr l Z a0 hw ew p2 _ X.old z O2 hz) (wd3 hw) (wd2 hw) (leB rfl) (leB rfl) (leB rfl) (leB rfl) all0 rfl ?_
  intro T vm h L v X K hC q
  obtain ⟨r2, cs_r2, rfl, le_r2, S_r2⟩ := q
  replace S_r1 := S_r1.keep0 K
  refine X.astore (pc' := 12) #[.val (.int p1), .val (.int p2), .val (.int p3), .val (.int p4), .val (.int p5), .val (.ref r1), .val (.ref r2), .unset, .unset, .unset, .unset, .unset, .unset, .unset] at_10 rfl rfl rfl ?_
  refine X.aconstNull (pc' := 13) at_12 rfl ?_
  refine X.astore (pc' := 15) #[.val (.int p1), .val (.int p2), .val (.int p3), .val (.int p4), .val (.int p5), .val (.ref r1), .val (.ref r2), .val .null, .unset, .unset, .unset, .unset, .unset, .unset] at_13 rfl rfl rfl ?_
  refine X.iload (pc' := 17) at_15 rfl rfl ?_
  refine X.iconst (pc' := 18) (4 : Int32) at_17 rfl rfl ?_
  refine X.iand (pc' := 19) at_18 rfl ?_
  by_cases hf : ¬ (p5 &&& (4 : Int32)) = 0
  · refine X.ifY (pc' := 28) at_19 ((if0 _ _).trans (feq hf).2) (by decide) (by decide) ?_
    refine X.iloadN (pc' := 29) at_28 rfl rfl ?_
    refine X.coldV (pc' := 32) (X.sStatic (wd0 hw) (wd1 hw) (wd2 hw) (wd3 hw) (by decide) rfl pd4 [(.int p4)] rfl rfl at_29) (rmStr l Z a0 hw ew p4 _ X.old z O2 hz) (wd3 hw) (wd2 hw) (leB rfl) (leB rfl) (leB rfl) (leB rfl) all0 rfl ?_
    intro T vm h L v X K hC q
    obtain ⟨r4, cs_r4, rfl, le_r4, S_r4⟩ := q
    replace S_r1 := S_r1.keep0 K
    replace S_r2 := S_r2.keep0 K
    refine X.astore (pc' := 34) #[.val (.int p1), .val (.int p2), .val (.int p3), .val (.int p4), .val (.int p5), .val (.ref r1), .val (.ref r2), .val .null, .val (.ref r4), .unset, .unset, .unset, .unset, .unset] at_32 rfl rfl rfl ?_
    refine X.iload (pc' := 36) at_34 rfl rfl ?_
    refine X.iconst (pc' := 37) (1 : Int32) at_36 rfl rfl ?_
    refine X.iand (pc' := 38) at_37 rfl ?_
    have k46 : ∀ q1 : Int32, ((q1 = 0 ∧ (p5 &&& (1 : Int32)) = 0) ∨ (q1 = 1 ∧ ¬ (p5 &&& (1 : Int32)) = 0)) → Y.Ends pg ev below (GC Z consts_1 [] (RV (fun w h => w = .int 1)) room_1 s) (T.setTop (mkF m 46 #[.val (.int p1), .val (.int p2), .val (.int p3), .val (.int p4), .val (.int p5), .val (.ref r1), .val (.ref r2), .val .null, .val (.ref r4), .unset, .unset, .unset, .unset, .unset] [(.int q1)])) := by
      intro q1 hb_q1
      refine X.istore (pc' := 48) #[.val (.int p1), .val (.int p2), .val (.int p3), .val (.int p4), .val (.int p5), .val (.ref r1), .val (.ref r2), .val .null, .val (.ref r4), .val (.int q1), .unset, .unset, .unset, .unset] at_46 rfl rfl ?_
      refine X.iload (pc' := 50) at_48 rfl rfl ?_
      refine X.iconst (pc' := 51) (2 : Int32) at_50 rfl rfl ?_
      refine X.iand (pc' := 52) at_51 rfl ?_
      have k60 : ∀ q2 : Int32, ((q2 = 0 ∧ (p5 &&& (2 : Int32)) = 0) ∨ (q2 = 1 ∧ ¬ (p5 &&& (2 : Int32)) = 0)) → Y.Ends pg ev below (GC Z consts_1 [] (RV (fun w h => w = .int 1)) room_1 s) (T.setTop (mkF m 60 #[.val (.int p1), .val (.int p2), .val (.int p3), .val (.int p4), .val (.int p5), .val (.ref r1), .val (.ref r2), .val .null, .val (.ref r4), .val (.int q1), .unset, .unset, .unset, .unset] [(.int q2)])) := by
        intro q2 hb_q2
        refine X.istore (pc' := 62) #[.val (.int p1), .val (.int p2), .val (.int p3), .val (.int p4), .val (.int p5), .val (.ref r1), .val (.ref r2), .val .null, .val (.ref r4), .val (.int q1), .val (.int q2), .unset, .unset, .unset] at_60 rfl rfl ?_
        have lt_r := S_r1.lt
        have lt_r1 := S_r1.lt
        have lt_r2 := S_r2.lt
        have lt_r4 := S_r4.lt
        refine X.newO (pc' := 65) (wd26 hw) (wd27 hw) (wd28 hw) at_62 (by decide) (by decide) rfl ?_
        intro T h o g_o Ex lt_o E_o D_o X1
        have z_o : Z.heap.size ≤ o := by rw [g_o]; exact X.old.1
        have s_o : s.heap.size ≤ o := by rw [g_o]; exact X.kp.1
        have ne_r1_o : r1 ≠ o := Nat.ne_of_lt (by rw [g_o]; exact lt_r1)
        have ne_r2_o : r2 ≠ o := Nat.ne_of_lt (by rw [g_o]; exact lt_r2)
        have ne_r4_o : r4 ≠ o := Nat.ne_of_lt (by rw [g_o]; exact lt_r4)
        replace S_r1 := S_r1.ext Ex
        replace S_r2 := S_r2.ext Ex
        replace S_r4 := S_r4.ext Ex
        replace lt_r1 := Nat.lt_of_lt_of_le lt_r1 Ex.1
        replace lt_r2 := Nat.lt_of_lt_of_le lt_r2 Ex.1
        replace lt_r4 := Nat.lt_of_lt_of_le lt_r4 Ex.1
        replace X := X1
        have F_o_name : Fld Z h o "com/example/hord/hord/command/Option" "name" "Ljava/lang/String;" .null := D_o (Or.inr (wd39 hw)) (ty := (.object "java/lang/String")) (by decide)
        have F_o_value : Fld Z h o "com/example/hord/hord/command/Option" "value" "Ljava/lang/String;" .null := D_o (Or.inr (wd41 hw)) (ty := (.object "java/lang/String")) (by decide)
        have F_o_defaultValue : Fld Z h o "com/example/hord/hord/command/Option" "defaultValue" "Ljava/lang/String;" .null := D_o (Or.inr (wd43 hw)) (ty := (.object "java/lang/String")) (by decide)
        have F_o_required : Fld Z h o "com/example/hord/hord/command/Option" "required" "Z" (.int (0 : Int32)) := D_o (Or.inr (wd45 hw)) (ty := .boolean) (by decide)
        have F_o_repeatable : Fld Z h o "com/example/hord/hord/command/Option" "repeatable" "Z" (.int (0 : Int32)) := D_o (Or.inr (wd47 hw)) (ty := .boolean) (by decide)
        have F_o_description : Fld Z h o "com/example/hord/hord/command/Option" "description" "Ljava/lang/String;" .null := D_o (Or.inr (wd49 hw)) (ty := (.object "java/lang/String")) (by decide)
        refine X.dup (pc' := 66) at_65 rfl rfl ?_
        refine X.aload (pc' := 68) at_66 rfl rfl rfl ?_
        refine X.aload (pc' := 70) at_68 rfl rfl rfl ?_
        refine X.aload (pc' := 72) at_70 rfl rfl rfl ?_
        refine X.iload (pc' := 74) at_72 rfl rfl ?_
        refine X.iload (pc' := 76) at_74 rfl rfl ?_
        refine X.aload (pc' := 78) at_76 rfl rfl rfl ?_
        refine X.callU (pc' := 81) (X.sSpecial rfl (wd29 hw) (wd30 hw) (wd31 hw) (by decide) rfl pd3 [(.ref r1), (.ref r2), .null, (.int q1), (.int q2), (.ref r4)] rfl rfl at_78) (rmOptI l Z a0 hw o (.ref r1) rfl (.ref r2) rfl .null rfl q1 q2 (.ref r4) rfl _ X.old (b01 (or01 hb_q1)) (b01 (or01 hb_q2)) z_o E_o F_o_name F_o_value F_o_defaultValue F_o_required F_o_repeatable F_o_description) (wd31 hw) (wd28 hw) (leB rfl) (leB rfl) (leB rfl) (leB rfl) (sfS (Safe.exa X.al E_o (by decide) (by decide)) sf0) (allS z_o all0) (allS (Or.inr s_o) all0) rfl ?_
        intro T h L X K q
        have Ob1 := (obj E_o (wd27 hw))
        replace S_r1 := S_r1.keep1 K ne_r1_o Ob1
        replace S_r2 := S_r2.keep1 K ne_r2_o Ob1
        replace S_r4 := S_r4.keep1 K ne_r4_o Ob1
        replace lt_r1 := Nat.lt_of_lt_of_le lt_r1 K.1
        replace lt_r2 := Nat.lt_of_lt_of_le lt_r2 K.1
        replace lt_r4 := Nat.lt_of_lt_of_le lt_r4 K.1
        replace E_o := E_o.keep K
        replace lt_o := Nat.lt_of_lt_of_le lt_o K.1
        obtain ⟨_, F_o_name, F_o_value, F_o_defaultValue, F_o_required, F_o_repeatable, F_o_description⟩ := q
        refine X.astore (pc' := 83) #[.val (.int p1), .val (.int p2), .val (.int p3), .val (.int p4), .val (.int p5), .val (.ref r1), .val (.ref r2), .val .null, .val (.ref r4), .val (.int q1), .val (.int q2), .val (.ref o), .unset, .unset] at_81 rfl rfl rfl ?_
        refine X.aload (pc' := 85) at_83 rfl rfl rfl ?_
        refine X.callV (pc' := 88) (X.sVirtual (wd50 hw) (wd51 hw) (wd53 hw) (wd52 hw) (by decide) rfl pd5 E_o [] rfl rfl at_85 (X.nf (wd53 hw) rfl)) (rmRep l Z a0 hw o _ X.old (.ref r1) (.ref r2) .null (.ref r4) rfl rfl rfl rfl q1 q2 (b01 (or01 hb_q1)) E_o F_o_name F_o_value F_o_defaultValue F_o_required F_o_repeatable F_o_description) (wd54 hw) (wd28 hw) (leB rfl) (leB rfl) (leB rfl) (leB rfl) sf0 all0 all0 rfl ?_
        intro T h L v X K q
        obtain ⟨u, rfl, leu, E_u, F_u_name, F_u_value, F_u_defaultValue, F_u_required, F_u_repeatable, F_u_description⟩ := q
        replace S_r1 := S_r1.keep0 K
        replace S_r2 := S_r2.keep0 K
        replace S_r4 := S_r4.keep0 K
        replace lt_r1 := Nat.lt_of_lt_of_le lt_r1 K.1
        replace lt_r2 := Nat.lt_of_lt_of_le lt_r2 K.1
        replace lt_r4 := Nat.lt_of_lt_of_le lt_r4 K.1
        replace E_o := E_o.keep K
        replace lt_o := Nat.lt_of_lt_of_le lt_o K.1
        replace F_o_name := F_o_name.keep K nin0
        replace F_o_value := F_o_value.keep K nin0
        replace F_o_defaultValue := F_o_defaultValue.keep K nin0
        replace F_o_required := F_o_required.keep K nin0
        replace F_o_repeatable := F_o_repeatable.keep K nin0
        replace F_o_description := F_o_description.keep K nin0
        refine X.astore (pc' := 90) #[.val (.int p1), .val (.int p2), .val (.int p3), .val (.int p4), .val (.int p5), .val (.ref r1), .val (.ref r2), .val .null, .val (.ref r4), .val (.int q1), .val (.int q2), .val (.ref o), .val (.ref u), .unset] at_88 rfl rfl rfl ?_
        refine X.aload (pc' := 92) at_90 rfl rfl rfl ?_
        refine X.nonN (pc' := 95) at_92 rfl ?_
        refine X.aload (pc' := 97) at_95 rfl rfl rfl ?_
        refine X.callP (pc' := 100) (X.sVirtual (wd57 hw) (wd58 hw) (wd60 hw) (wd59 hw) (by decide) rfl pd6 E_u [] rfl rfl at_97 (X.nf (wd53 hw) rfl)) (rmG_defaultValue l Z a0 hw u _ X.old .null rfl F_u_defaultValue) (wd61 hw) (wd28 hw) (leB rfl) (leB rfl) (leB rfl) (leB rfl) rfl ?_
        intro T L v X q
        subst q
        refine X.nonN (pc' := 103) at_100 rfl ?_
        refine X.iconst (pc' := 104) (1 : Int32) at_103 rfl rfl ?_
        refine X.goto (pc' := 108) at_104 (by decide) (by decide) ?_
        refine X.istore (pc' := 110) #[.val (.int p1), .val (.int p2), .val (.int p3), .val (.int p4), .val (.int p5), .val (.ref r1), .val (.ref r2), .val .null, .val (.ref r4), .val (.int q1), .val (.int q2), .val (.ref o), .val (.ref u), .val (.int (1 : Int32))] at_108 rfl rfl ?_
        refine X.goto (pc' := 125) at_110 (by decide) (by decide) ?_
        refine X.aload (pc' := 127) at_125 rfl rfl rfl ?_
        refine X.aload (pc' := 129) at_127 rfl rfl rfl ?_
        refine X.callP (pc' := 132) (X.sVirtual (wd67 hw) (wd68 hw) (wd70 hw) (wd69 hw) (by decide) rfl pd6 E_u [] rfl rfl at_129 (X.nf (wd53 hw) rfl)) (rmG_name l Z a0 hw u _ X.old (.ref r1) rfl F_u_name) (wd71 hw) (wd28 hw) (leB rfl) (leB rfl) (leB rfl) (leB rfl) rfl ?_
        intro T L v X q
        subst q
        refine X.callP (pc' := 135) (X.sVirtual (wd62 hw) (wd63 hw) (wd65 hw) (wd64 hw) (by decide) rfl pd7 S_r1.exa [(.ref r1)] rfl rfl at_132 (X.nf (wd65 hw) rfl)) (rmEq l Z a0 hw r1 _ X.old) (wd66 hw) (wd6 hw) (leB rfl) (leB rfl) (leB rfl) (leB rfl) rfl ?_
        intro T L v X q
        subst q
        refine X.ifN (pc' := 138) at_135 (by decide) rfl ?_
        refine X.aload (pc' := 140) at_138 rfl rfl rfl ?_
        refine X.aload (pc' := 142) at_140 rfl rfl rfl ?_
        refine X.callP (pc' := 145) (X.sVirtual (wd72 hw) (wd73 hw) (wd75 hw) (wd74 hw) (by decide) rfl pd6 E_u [] rfl rfl at_142 (X.nf (wd53 hw) rfl)) (rmG_value l Z a0 hw u _ X.old (.ref r2) rfl F_u_value) (wd76 hw) (wd28 hw) (leB rfl) (leB rfl) (leB rfl) (leB rfl) rfl ?_
        intro T L v X q
        subst q
        refine X.callP (pc' := 148) (X.sVirtual (wd62 hw) (wd63 hw) (wd65 hw) (wd64 hw) (by decide) rfl pd7 S_r2.exa [(.ref r2)] rfl rfl at_145 (X.nf (wd65 hw) rfl)) (rmEq l Z a0 hw r2 _ X.old) (wd66 hw) (wd6 hw) (leB rfl) (leB rfl) (leB rfl) (leB rfl) rfl ?_
        intro T L v X q
        subst q
        refine X.ifN (pc' := 151) at_148 (by decide) rfl ?_
        refine X.iload (pc' := 153) at_151 rfl rfl ?_
        refine X.ifN (pc' := 156) at_153 (by decide) rfl ?_
        refine X.aload (pc' := 158) at_156 rfl rfl rfl ?_
        refine X.callP (pc' := 161) (X.sVirtual (wd77 hw) (wd78 hw) (wd80 hw) (wd79 hw) (by decide) rfl pd8 E_u [] rfl rfl at_158 (X.nf (wd53 hw) rfl)) (rmG_required l Z a0 hw u _ X.old q1 (b01 (or01 hb_q1)).1 F_u_required) (wd81 hw) (wd28 hw) (leB rfl) (leB rfl) (leB rfl) (leB rfl) rfl ?_
        intro T L v X q
        subst q
        refine X.iload (pc' := 163) at_161 rfl rfl ?_
        refine X.icN (pc' := 166) at_163 ((teq rfl).2) rfl ?_
        refine X.aload (pc' := 168) at_166 rfl rfl rfl ?_
        refine X.callP (pc' := 171) (X.sVirtual (wd82 hw) (wd83 hw) (wd85 hw) (wd84 hw) (by decide) rfl pd8 E_u [] rfl rfl at_168 (X.nf (wd53 hw) rfl)) (rmG_repeatable l Z a0 hw u _ X.old (1 : Int32) rfl F_u_repeatable) (wd86 hw) (wd28 hw) (leB rfl) (leB rfl) (leB rfl) (leB rfl) rfl ?_
        intro T L v X q
        subst q
        refine X.ifN (pc' := 174) at_171 (by decide) rfl ?_
        refine X.aload (pc' := 176) at_174 rfl rfl rfl ?_
        refine X.aload (pc' := 178) at_176 rfl rfl rfl ?_
        refine X.callP (pc' := 181) (X.sVirtual (wd87 hw) (wd88 hw) (wd90 hw) (wd89 hw) (by decide) rfl pd6 E_u [] rfl rfl at_178 (X.nf (wd53 hw) rfl)) (rmG_description l Z a0 hw u _ X.old (.ref r4) rfl F_u_description) (wd91 hw) (wd28 hw) (leB rfl) (leB rfl) (leB rfl) (leB rfl) rfl ?_
        intro T L v X q
        subst q
        refine X.callP (pc' := 184) (X.sVirtual (wd62 hw) (wd63 hw) (wd65 hw) (wd64 hw) (by decide) rfl pd7 S_r4.exa [(.ref r4)] rfl rfl at_181 (X.nf (wd65 hw) rfl)) (rmEq l Z a0 hw r4 _ X.old) (wd66 hw) (wd6 hw) (leB rfl) (leB rfl) (leB rfl) (leB rfl) rfl ?_
        intro T L v X q
        subst q
        refine X.ifN (pc' := 187) at_184 (by decide) rfl ?_
        refine X.aload (pc' := 189) at_187 rfl rfl rfl ?_
        refine X.callP (pc' := 192) (X.sVirtual (wd82 hw) (wd83 hw) (wd85 hw) (wd84 hw) (by decide) rfl pd8 E_o [] rfl rfl at_189 (X.nf (wd53 hw) rfl)) (rmG_repeatable l Z a0 hw o _ X.old q2 (b01 (or01 hb_q2)).1 F_o_repeatable) (wd86 hw) (wd28 hw) (leB rfl) (leB rfl) (leB rfl) (leB rfl) rfl ?_
        intro T L v X q
        subst q
        refine X.iload (pc' := 194) at_192 rfl rfl ?_
        refine X.icN (pc' := 197) at_194 ((teq rfl).2) rfl ?_
        refine X.iconst (pc' := 198) (1 : Int32) at_197 rfl rfl ?_
        refine X.goto (pc' := 202) at_198 (by decide) (by decide) ?_
        exact X.retIC (by simp) rfl at_202 (by decide) (by decide) ⟨_, rfl, rfl⟩
      by_cases hc60 : (p5 &&& (2 : Int32)) = 0
      · refine X.ifY (pc' := 59) at_52 ((if0 _ _).trans (teq hc60).1) (by decide) (by decide) ?_
        refine X.iconst (pc' := 60) (0 : Int32) at_59 rfl rfl ?_
        exact k60 _ (Or.inl ⟨rfl, hc60⟩)
      · refine X.ifN (pc' := 55) at_52 ((if0 _ _).trans (feq hc60).1) rfl ?_
        refine X.iconst (pc' := 56) (1 : Int32) at_55 rfl rfl ?_
        refine X.goto (pc' := 60) at_56 (by decide) (by decide) ?_
        exact k60 _ (Or.inr ⟨rfl, hc60⟩)
    by_cases hc46 : (p5 &&& (1 : Int32)) = 0
    · refine X.ifY (pc' := 45) at_38 ((if0 _ _).trans (teq hc46).1) (by decide) (by decide) ?_
      refine X.iconst (pc' := 46) (0 : Int32) at_45 rfl rfl ?_
      exact k46 _ (Or.inl ⟨rfl, hc46⟩)
    · refine X.ifN (pc' := 41) at_38 ((if0 _ _).trans (feq hc46).1) rfl ?_
      refine X.iconst (pc' := 42) (1 : Int32) at_41 rfl rfl ?_
      refine X.goto (pc' := 46) at_42 (by decide) (by decide) ?_
      exact k46 _ (Or.inr ⟨rfl, hc46⟩)
  · refine X.ifN (pc' := 22) at_19 ((if0 _ _).trans (teq (Classical.not_not.mp hf)).2) rfl ?_
    refine X.iloadN (pc' := 23) at_22 rfl rfl ?_
    refine X.coldV (pc' := 26) (X.sStatic (wd0 hw) (wd1 hw) (wd2 hw) (wd3 hw) (by decide) rfl pd4 [(.int p3)] rfl rfl at_23) (rmStr l Z a0 hw ew p3 _ X.old z O2 hz) (wd3 hw) (wd2 hw) (leB rfl) (leB rfl) (leB rfl) (leB rfl) all0 rfl ?_
    intro T vm h L v X K hC q
    obtain ⟨r3, cs_r3, rfl, le_r3, S_r3⟩ := q
    replace S_r1 := S_r1.keep0 K
    replace S_r2 := S_r2.keep0 K
    refine X.astore (pc' := 28) #[.val (.int p1), .val (.int p2), .val (.int p3), .val (.int p4), .val (.int p5), .val (.ref r1), .val (.ref r2), .val (.ref r3), .unset, .unset, .unset, .unset, .unset, .unset] at_26 rfl rfl rfl ?_
    refine X.iloadN (pc' := 29) at_28 rfl rfl ?_
    refine X.coldV (pc' := 32) (X.sStatic (wd0 hw) (wd1 hw) (wd2 hw) (wd3 hw) (by decide) rfl pd4 [(.int p4)] rfl rfl at_29) (rmStr l Z a0 hw ew p4 _ X.old z O2 hz) (wd3 hw) (wd2 hw) (leB rfl) (leB rfl) (leB rfl) (leB rfl) all0 rfl ?_
    intro T vm h L v X K hC q
    obtain ⟨r4, cs_r4, rfl, le_r4, S_r4⟩ := q
    replace S_r1 := S_r1.keep0 K
    replace S_r2 := S_r2.keep0 K
    replace S_r3 := S_r3.keep0 K
    refine X.astore (pc' := 34) #[.val (.int p1), .val (.int p2), .val (.int p3), .val (.int p4), .val (.int p5), .val (.ref r1), .val (.ref r2), .val (.ref r3), .val (.ref r4), .unset, .unset, .unset, .unset, .unset] at_32 rfl rfl rfl ?_
    refine X.iload (pc' := 36) at_34 rfl rfl ?_
    refine X.iconst (pc' := 37) (1 : Int32) at_36 rfl rfl ?_
    refine X.iand (pc' := 38) at_37 rfl ?_
    have k46 : ∀ q1 : Int32, ((q1 = 0 ∧ (p5 &&& (1 : Int32)) = 0) ∨ (q1 = 1 ∧ ¬ (p5 &&& (1 : Int32)) = 0)) → Y.Ends pg ev below (GC Z consts_1 [] (RV (fun w h => w = .int 1)) room_1 s) (T.setTop (mkF m 46 #[.val (.int p1), .val (.int p2), .val (.int p3), .val (.int p4), .val (.int p5), .val (.ref r1), .val (.ref r2), .val (.ref r3), .val (.ref r4), .unset, .unset, .unset, .unset, .unset] [(.int q1)])) := by
      intro q1 hb_q1
      refine X.istore (pc' := 48) #[.val (.int p1), .val (.int p2), .val (.int p3), .val (.int p4), .val (.int p5), .val (.ref r1), .val (.ref r2), .val (.ref r3), .val (.ref r4), .val (.int q1), .unset, .unset, .unset, .unset] at_46 rfl rfl ?_
      refine X.iload (pc' := 50) at_48 rfl rfl ?_
      refine X.iconst (pc' := 51) (2 : Int32) at_50 rfl rfl ?_
      refine X.iand (pc' := 52) at_51 rfl ?_
      have k60 : ∀ q2 : Int32, ((q2 = 0 ∧ (p5 &&& (2 : Int32)) = 0) ∨ (q2 = 1 ∧ ¬ (p5 &&& (2 : Int32)) = 0)) → Y.Ends pg ev below (GC Z consts_1 [] (RV (fun w h => w = .int 1)) room_1 s) (T.setTop (mkF m 60 #[.val (.int p1), .val (.int p2), .val (.int p3), .val (.int p4), .val (.int p5), .val (.ref r1), .val (.ref r2), .val (.ref r3), .val (.ref r4), .val (.int q1), .unset, .unset, .unset, .unset] [(.int q2)])) := by
        intro q2 hb_q2
        refine X.istore (pc' := 62) #[.val (.int p1), .val (.int p2), .val (.int p3), .val (.int p4), .val (.int p5), .val (.ref r1), .val (.ref r2), .val (.ref r3), .val (.ref r4), .val (.int q1), .val (.int q2), .unset, .unset, .unset] at_60 rfl rfl ?_
        have lt_r := S_r1.lt
        have lt_r1 := S_r1.lt
        have lt_r2 := S_r2.lt
        have lt_r4 := S_r4.lt
        have lt_r3 := S_r3.lt
        refine X.newO (pc' := 65) (wd26 hw) (wd27 hw) (wd28 hw) at_62 (by decide) (by decide) rfl ?_
        intro T h o g_o Ex lt_o E_o D_o X1
        have z_o : Z.heap.size ≤ o := by rw [g_o]; exact X.old.1
        have s_o : s.heap.size ≤ o := by rw [g_o]; exact X.kp.1
        have ne_r1_o : r1 ≠ o := Nat.ne_of_lt (by rw [g_o]; exact lt_r1)
        have ne_r2_o : r2 ≠ o := Nat.ne_of_lt (by rw [g_o]; exact lt_r2)
        have ne_r4_o : r4 ≠ o := Nat.ne_of_lt (by rw [g_o]; exact lt_r4)
        have ne_r3_o : r3 ≠ o := Nat.ne_of_lt (by rw [g_o]; exact lt_r3)
        replace S_r1 := S_r1.ext Ex
        replace S_r2 := S_r2.ext Ex
        replace S_r3 := S_r3.ext Ex
        replace S_r4 := S_r4.ext Ex
        replace lt_r1 := Nat.lt_of_lt_of_le lt_r1 Ex.1
        replace lt_r2 := Nat.lt_of_lt_of_le lt_r2 Ex.1
        replace lt_r4 := Nat.lt_of_lt_of_le lt_r4 Ex.1
        replace lt_r3 := Nat.lt_of_lt_of_le lt_r3 Ex.1
        replace X := X1
        have F_o_name : Fld Z h o "com/example/hord/hord/command/Option" "name" "Ljava/lang/String;" .null := D_o (Or.inr (wd39 hw)) (ty := (.object "java/lang/String")) (by decide)
        have F_o_value : Fld Z h o "com/example/hord/hord/command/Option" "value" "Ljava/lang/String;" .null := D_o (Or.inr (wd41 hw)) (ty := (.object "java/lang/String")) (by decide)
        have F_o_defaultValue : Fld Z h o "com/example/hord/hord/command/Option" "defaultValue" "Ljava/lang/String;" .null := D_o (Or.inr (wd43 hw)) (ty := (.object "java/lang/String")) (by decide)
        have F_o_required : Fld Z h o "com/example/hord/hord/command/Option" "required" "Z" (.int (0 : Int32)) := D_o (Or.inr (wd45 hw)) (ty := .boolean) (by decide)
        have F_o_repeatable : Fld Z h o "com/example/hord/hord/command/Option" "repeatable" "Z" (.int (0 : Int32)) := D_o (Or.inr (wd47 hw)) (ty := .boolean) (by decide)
        have F_o_description : Fld Z h o "com/example/hord/hord/command/Option" "description" "Ljava/lang/String;" .null := D_o (Or.inr (wd49 hw)) (ty := (.object "java/lang/String")) (by decide)
        refine X.dup (pc' := 66) at_65 rfl rfl ?_
        refine X.aload (pc' := 68) at_66 rfl rfl rfl ?_
        refine X.aload (pc' := 70) at_68 rfl rfl rfl ?_
        refine X.aload (pc' := 72) at_70 rfl rfl rfl ?_
        refine X.iload (pc' := 74) at_72 rfl rfl ?_
        refine X.iload (pc' := 76) at_74 rfl rfl ?_
        refine X.aload (pc' := 78) at_76 rfl rfl rfl ?_
        refine X.callU (pc' := 81) (X.sSpecial rfl (wd29 hw) (wd30 hw) (wd31 hw) (by decide) rfl pd3 [(.ref r1), (.ref r2), (.ref r3), (.int q1), (.int q2), (.ref r4)] rfl rfl at_78) (rmOptI l Z a0 hw o (.ref r1) rfl (.ref r2) rfl (.ref r3) rfl q1 q2 (.ref r4) rfl _ X.old (b01 (or01 hb_q1)) (b01 (or01 hb_q2)) z_o E_o F_o_name F_o_value F_o_defaultValue F_o_required F_o_repeatable F_o_description) (wd31 hw) (wd28 hw) (leB rfl) (leB rfl) (leB rfl) (leB rfl) (sfS (Safe.exa X.al E_o (by decide) (by decide)) sf0) (allS z_o all0) (allS (Or.inr s_o) all0) rfl ?_
        intro T h L X K q
        have Ob1 := (obj E_o (wd27 hw))
        replace S_r1 := S_r1.keep1 K ne_r1_o Ob1
        replace S_r2 := S_r2.keep1 K ne_r2_o Ob1
        replace S_r3 := S_r3.keep1 K ne_r3_o Ob1
        replace S_r4 := S_r4.keep1 K ne_r4_o Ob1
        replace lt_r1 := Nat.lt_of_lt_of_le lt_r1 K.1
        replace lt_r2 := Nat.lt_of_lt_of_le lt_r2 K.1
        replace lt_r4 := Nat.lt_of_lt_of_le lt_r4 K.1
        replace lt_r3 := Nat.lt_of_lt_of_le lt_r3 K.1
        replace E_o := E_o.keep K
        replace lt_o := Nat.lt_of_lt_of_le lt_o K.1
        obtain ⟨_, F_o_name, F_o_value, F_o_defaultValue, F_o_required, F_o_repeatable, F_o_description⟩ := q
        refine X.astore (pc' := 83) #[.val (.int p1), .val (.int p2), .val (.int p3), .val (.int p4), .val (.int p5), .val (.ref r1), .val (.ref r2), .val (.ref r3), .val (.ref r4), .val (.int q1), .val (.int q2), .val (.ref o), .unset, .unset] at_81 rfl rfl rfl ?_
        refine X.aload (pc' := 85) at_83 rfl rfl rfl ?_
        refine X.callV (pc' := 88) (X.sVirtual (wd50 hw) (wd51 hw) (wd53 hw) (wd52 hw) (by decide) rfl pd5 E_o [] rfl rfl at_85 (X.nf (wd53 hw) rfl)) (rmRep l Z a0 hw o _ X.old (.ref r1) (.ref r2) (.ref r3) (.ref r4) rfl rfl rfl rfl q1 q2 (b01 (or01 hb_q1)) E_o F_o_name F_o_value F_o_defaultValue F_o_required F_o_repeatable F_o_description) (wd54 hw) (wd28 hw) (leB rfl) (leB rfl) (leB rfl) (leB rfl) sf0 all0 all0 rfl ?_
        intro T h L v X K q
        obtain ⟨u, rfl, leu, E_u, F_u_name, F_u_value, F_u_defaultValue, F_u_required, F_u_repeatable, F_u_description⟩ := q
        replace S_r1 := S_r1.keep0 K
        replace S_r2 := S_r2.keep0 K
        replace S_r3 := S_r3.keep0 K
        replace S_r4 := S_r4.keep0 K
        replace lt_r1 := Nat.lt_of_lt_of_le lt_r1 K.1
        replace lt_r2 := Nat.lt_of_lt_of_le lt_r2 K.1
        replace lt_r4 := Nat.lt_of_lt_of_le lt_r4 K.1
        replace lt_r3 := Nat.lt_of_lt_of_le lt_r3 K.1
        replace E_o := E_o.keep K
        replace lt_o := Nat.lt_of_lt_of_le lt_o K.1
        replace F_o_name := F_o_name.keep K nin0
        replace F_o_value := F_o_value.keep K nin0
        replace F_o_defaultValue := F_o_defaultValue.keep K nin0
        replace F_o_required := F_o_required.keep K nin0
        replace F_o_repeatable := F_o_repeatable.keep K nin0
        replace F_o_description := F_o_description.keep K nin0
        refine X.astore (pc' := 90) #[.val (.int p1), .val (.int p2), .val (.int p3), .val (.int p4), .val (.int p5), .val (.ref r1), .val (.ref r2), .val (.ref r3), .val (.ref r4), .val (.int q1), .val (.int q2), .val (.ref o), .val (.ref u), .unset] at_88 rfl rfl rfl ?_
        refine X.aload (pc' := 92) at_90 rfl rfl rfl ?_
        refine X.nonY (pc' := 113) at_92 (by decide) (by decide) ?_
        refine X.aload (pc' := 115) at_113 rfl rfl rfl ?_
        refine X.aload (pc' := 117) at_115 rfl rfl rfl ?_
        refine X.callP (pc' := 120) (X.sVirtual (wd57 hw) (wd58 hw) (wd60 hw) (wd59 hw) (by decide) rfl pd6 E_u [] rfl rfl at_117 (X.nf (wd53 hw) rfl)) (rmG_defaultValue l Z a0 hw u _ X.old (.ref r3) rfl F_u_defaultValue) (wd61 hw) (wd28 hw) (leB rfl) (leB rfl) (leB rfl) (leB rfl) rfl ?_
        intro T L v X q
        subst q
        refine X.callP (pc' := 123) (X.sVirtual (wd62 hw) (wd63 hw) (wd65 hw) (wd64 hw) (by decide) rfl pd7 S_r3.exa [(.ref r3)] rfl rfl at_120 (X.nf (wd65 hw) rfl)) (rmEq l Z a0 hw r3 _ X.old) (wd66 hw) (wd6 hw) (leB rfl) (leB rfl) (leB rfl) (leB rfl) rfl ?_
        intro T L v X q
        subst q
        refine X.istore (pc' := 125) #[.val (.int p1), .val (.int p2), .val (.int p3), .val (.int p4), .val (.int p5), .val (.ref r1), .val (.ref r2), .val (.ref r3), .val (.ref r4), .val (.int q1), .val (.int q2), .val (.ref o), .val (.ref u), .val (.int (1 : Int32))] at_123 rfl rfl ?_
        refine X.aload (pc' := 127) at_125 rfl rfl rfl ?_
        refine X.aload (pc' := 129) at_127 rfl rfl rfl ?_
        refine X.callP (pc' := 132) (X.sVirtual (wd67 hw) (wd68 hw) (wd70 hw) (wd69 hw) (by decide) rfl pd6 E_u [] rfl rfl at_129 (X.nf (wd53 hw) rfl)) (rmG_name l Z a0 hw u _ X.old (.ref r1) rfl F_u_name) (wd71 hw) (wd28 hw) (leB rfl) (leB rfl) (leB rfl) (leB rfl) rfl ?_
        intro T L v X q
        subst q
        refine X.callP (pc' := 135) (X.sVirtual (wd62 hw) (wd63 hw) (wd65 hw) (wd64 hw) (by decide) rfl pd7 S_r1.exa [(.ref r1)] rfl rfl at_132 (X.nf (wd65 hw) rfl)) (rmEq l Z a0 hw r1 _ X.old) (wd66 hw) (wd6 hw) (leB rfl) (leB rfl) (leB rfl) (leB rfl) rfl ?_
        intro T L v X q
        subst q
        refine X.ifN (pc' := 138) at_135 (by decide) rfl ?_
        refine X.aload (pc' := 140) at_138 rfl rfl rfl ?_
        refine X.aload (pc' := 142) at_140 rfl rfl rfl ?_
        refine X.callP (pc' := 145) (X.sVirtual (wd72 hw) (wd73 hw) (wd75 hw) (wd74 hw) (by decide) rfl pd6 E_u [] rfl rfl at_142 (X.nf (wd53 hw) rfl)) (rmG_value l Z a0 hw u _ X.old (.ref r2) rfl F_u_value) (wd76 hw) (wd28 hw) (leB rfl) (leB rfl) (leB rfl) (leB rfl) rfl ?_
        intro T L v X q
        subst q
        refine X.callP (pc' := 148) (X.sVirtual (wd62 hw) (wd63 hw) (wd65 hw) (wd64 hw) (by decide) rfl pd7 S_r2.exa [(.ref r2)] rfl rfl at_145 (X.nf (wd65 hw) rfl)) (rmEq l Z a0 hw r2 _ X.old) (wd66 hw) (wd6 hw) (leB rfl) (leB rfl) (leB rfl) (leB rfl) rfl ?_
        intro T L v X q
        subst q
        refine X.ifN (pc' := 151) at_148 (by decide) rfl ?_
        refine X.iload (pc' := 153) at_151 rfl rfl ?_
        refine X.ifN (pc' := 156) at_153 (by decide) rfl ?_
        refine X.aload (pc' := 158) at_156 rfl rfl rfl ?_
        refine X.callP (pc' := 161) (X.sVirtual (wd77 hw) (wd78 hw) (wd80 hw) (wd79 hw) (by decide) rfl pd8 E_u [] rfl rfl at_158 (X.nf (wd53 hw) rfl)) (rmG_required l Z a0 hw u _ X.old q1 (b01 (or01 hb_q1)).1 F_u_required) (wd81 hw) (wd28 hw) (leB rfl) (leB rfl) (leB rfl) (leB rfl) rfl ?_
        intro T L v X q
        subst q
        refine X.iload (pc' := 163) at_161 rfl rfl ?_
        refine X.icN (pc' := 166) at_163 ((teq rfl).2) rfl ?_
        refine X.aload (pc' := 168) at_166 rfl rfl rfl ?_
        refine X.callP (pc' := 171) (X.sVirtual (wd82 hw) (wd83 hw) (wd85 hw) (wd84 hw) (by decide) rfl pd8 E_u [] rfl rfl at_168 (X.nf (wd53 hw) rfl)) (rmG_repeatable l Z a0 hw u _ X.old (1 : Int32) rfl F_u_repeatable) (wd86 hw) (wd28 hw) (leB rfl) (leB rfl) (leB rfl) (leB rfl) rfl ?_
        intro T L v X q
        subst q
        refine X.ifN (pc' := 174) at_171 (by decide) rfl ?_
        refine X.aload (pc' := 176) at_174 rfl rfl rfl ?_
        refine X.aload (pc' := 178) at_176 rfl rfl rfl ?_
        refine X.callP (pc' := 181) (X.sVirtual (wd87 hw) (wd88 hw) (wd90 hw) (wd89 hw) (by decide) rfl pd6 E_u [] rfl rfl at_178 (X.nf (wd53 hw) rfl)) (rmG_description l Z a0 hw u _ X.old (.ref r4) rfl F_u_description) (wd91 hw) (wd28 hw) (leB rfl) (leB rfl) (leB rfl) (leB rfl) rfl ?_
        intro T L v X q
        subst q
        refine X.callP (pc' := 184) (X.sVirtual (wd62 hw) (wd63 hw) (wd65 hw) (wd64 hw) (by decide) rfl pd7 S_r4.exa [(.ref r4)] rfl rfl at_181 (X.nf (wd65 hw) rfl)) (rmEq l Z a0 hw r4 _ X.old) (wd66 hw) (wd6 hw) (leB rfl) (leB rfl) (leB rfl) (leB rfl) rfl ?_
        intro T L v X q
        subst q
        refine X.ifN (pc' := 187) at_184 (by decide) rfl ?_
        refine X.aload (pc' := 189) at_187 rfl rfl rfl ?_
        refine X.callP (pc' := 192) (X.sVirtual (wd82 hw) (wd83 hw) (wd85 hw) (wd84 hw) (by decide) rfl pd8 E_o [] rfl rfl at_189 (X.nf (wd53 hw) rfl)) (rmG_repeatable l Z a0 hw o _ X.old q2 (b01 (or01 hb_q2)).1 F_o_repeatable) (wd86 hw) (wd28 hw) (leB rfl) (leB rfl) (leB rfl) (leB rfl) rfl ?_
        intro T L v X q
        subst q
        refine X.iload (pc' := 194) at_192 rfl rfl ?_
        refine X.icN (pc' := 197) at_194 ((teq rfl).2) rfl ?_
        refine X.iconst (pc' := 198) (1 : Int32) at_197 rfl rfl ?_
        refine X.goto (pc' := 202) at_198 (by decide) (by decide) ?_
        exact X.retIC (by simp) rfl at_202 (by decide) (by decide) ⟨_, rfl, rfl⟩
      by_cases hc60 : (p5 &&& (2 : Int32)) = 0
      · refine X.ifY (pc' := 59) at_52 ((if0 _ _).trans (teq hc60).1) (by decide) (by decide) ?_
        refine X.iconst (pc' := 60) (0 : Int32) at_59 rfl rfl ?_
        exact k60 _ (Or.inl ⟨rfl, hc60⟩)
      · refine X.ifN (pc' := 55) at_52 ((if0 _ _).trans (feq hc60).1) rfl ?_
        refine X.iconst (pc' := 56) (1 : Int32) at_55 rfl rfl ?_
        refine X.goto (pc' := 60) at_56 (by decide) (by decide) ?_
        exact k60 _ (Or.inr ⟨rfl, hc60⟩)
    by_cases hc46 : (p5 &&& (1 : Int32)) = 0
    · refine X.ifY (pc' := 45) at_38 ((if0 _ _).trans (teq hc46).1) (by decide) (by decide) ?_
      refine X.iconst (pc' := 46) (0 : Int32) at_45 rfl rfl ?_
      exact k46 _ (Or.inl ⟨rfl, hc46⟩)
    · refine X.ifN (pc' := 41) at_38 ((if0 _ _).trans (feq hc46).1) rfl ?_
      refine X.iconst (pc' := 42) (1 : Int32) at_41 rfl rfl ?_
      refine X.goto (pc' := 46) at_42 (by decide) (by decide) ?_
      exact k46 _ (Or.inr ⟨rfl, hc46⟩)
set_option maxRecDepth 65536 in
set_option maxHeartbeats 40000000 in
theorem comes_1 {Post : Tables → Env → Array Value → State → Outcome → State → Prop} (hpost : ∀ tb e args s v u, (limb_1_1.after args s (.returned v) u = true ∧ limb_1_2.after args s (.returned v) u = true ∧ True) → ReturnedEndW s (.returned v) u (Jvm.fieldLocs frame_1_writes args s ++ Jvm.arrayLocs frame_1_arrays args s ++ Jvm.staticLocs frame_1_statics s) 40 1216 → Post tb e args s (.returned v) u) :
    ArmFor flags0 classFile x code maxLocals ret World_1 tables_1 room_1 Calls_1 rest_1 Pre_1 Post := by
  intro l hfl _ _ p e ha hc hk s m args below hf hA hF happ hP
  obtain ⟨hcalls, hrest, hpre⟩ := hP
  obtain ⟨-, -, -, hnamed, -, -, -, hat⟩ := (Spec.applies_iff hf).mp happ
  obtain ⟨hg, hn⟩ := and_e (Cond.before_iff.mp (show (Jvm.Cond.and given_1 narrow_1).before args s = true from hpre))
  obtain ⟨h1, g0⟩ := and_e hg
  obtain ⟨k0, g1⟩ := and_e g0
  obtain ⟨k1, g2⟩ := and_e g1
  obtain ⟨k2, g3⟩ := and_e g2
  obtain ⟨k3, g4⟩ := and_e g3
  have k4 := g4
  obtain ⟨w0, w1, w2, w3, w4, rfl⟩ : ∃ w0 w1 w2 w3 w4 : Value, args = #[w0, w1, w2, w3, w4] := by
    have hs : args.size = 5 := by simpa [Cond.value, given_1] using h1
    obtain ⟨L⟩ := args
    match L, hs with
    | [w0, w1, w2, w3, w4], _ => exact ⟨w0, w1, w2, w3, w4, rfl⟩
  have hw := fun d (hd : d ∈ tables_1) => atoms_spec (ws := Jvm.Cond.code x code maxLocals ret :: tables_1) hat d (List.mem_cons_of_mem _ hd)
  obtain ⟨hsets, hown0⟩ := atoms_of _ (rest_1_c_eq ▸ (show rest_1_c.before _ s = true from hrest))
  obtain ⟨i0, e0⟩ := is_v k0
  obtain rfl : w0 = (.int i0) := Option.some.inj e0
  obtain ⟨i1, e1⟩ := is_v k1
  obtain rfl : w1 = (.int i1) := Option.some.inj e1
  obtain ⟨i2, e2⟩ := is_v k2
  obtain rfl : w2 = (.int i2) := Option.some.inj e2
  obtain ⟨i3, e3⟩ := is_v k3
  obtain rfl : w3 = (.int i3) := Option.some.inj e3
  obtain ⟨i4, e4⟩ := is_v k4
  obtain rfl : w4 = (.int i4) := Option.some.inj e4
  have hcw := hsets _ (List.mem_of_getElem? (i := 2) rfl)
  have ncs := not_v (Cond.before_iff.mp hcw)
  obtain ⟨zcs, ecs⟩ := is_v (Cond.before_iff.mp (hsets _ (List.mem_of_getElem? (i := 1) rfl)))
  have O2 : Sta s s.heap "java/lang/String" "COMPACT_STRINGS" "Z" (.int zcs) := Sta.start ecs (Or.inl (hsets _ (List.mem_of_getElem? (i := 0) rfl)))
  have hcs : ¬ (zcs = (0 : Int32)) := gotF (Cond.eq_ints ecs (Term.int_eval (0))) ncs
  have HC : CHv s consts_1 s.vm s.heap := CHv.start (a0 := _) (ew1 hw) (fun q hq => hcalls.1 q hq) hcw (wd19 hw) (wd5 hw)
  obtain ⟨n, o, h1, h2, h3, v, L, rfl, ⟨⟨w, rfl, rfl⟩, N, -, -⟩, -, hq⟩ := rm0 l s _ hw (ew1 hw) i0 i1 i2 i3 i4 s.heap ⟨Nat.le_refl _, fun _ _ q => q⟩ zcs O2 hcs p e ha hc hk s m _ below hf ((Spec.applies_iff_loose hf).mp happ).1 ⟨rfl, State.Warmed39.refl s, rfl, HC⟩ trivial
  refine ⟨n, _, h1, h2, h3, hpost _ _ _ _ _ _ ⟨Cond.after_iff.mpr rfl, Cond.after_iff.mpr (eq_i res_at (Term.int_eval (1)) rfl), trivial⟩ ⟨hq.1, hq.2.1, hq.2.2.1, (hq.2.2.2.sift fun y hy => Or.inr (N y hy)).mono (by decide) (by decide)⟩⟩
theorem main_1_1 : Claimed_1_1 := comes_1 fun _ _ _ _ _ _ h hF => ⟨h.1, hF⟩
theorem main_1_2 : Claimed_1_2 := comes_1 fun _ _ _ _ _ _ h hF => ⟨h.2.1, hF⟩
end Jvm.Pilot.@@N@@
namespace Jvm.Pilot.@@N@@
open Jvm Jvm.ClassFile Sem Op Lib Jvm.Free Jvm.Stand Jvm.Pilot.@@N@@.Jvm.D
/-! MADE BY PROGRAM (witnessworld.py) out of the Statement's table words and the real class files: 21 classes; the members and pool entries that the words name. The judged class is class 1, her method 2. -/
namespace start1
open Jvm.ClassFile
def u (s : String) : CpInfo := .utf8 (stringToUtf16 s)
/-- a pool by its gaps: so many unusable entries, then the entry; so many at the end -/
def gap : Nat → List CpInfo → List CpInfo
  | 0, r => r
  | n + 1, r => .unusable :: gap n r
def poolList (es : List (Nat × CpInfo)) (last : Nat) : List CpInfo := es.foldr (fun e r => gap e.1 (e.2 :: r)) (gap last [])
def pool (es : List (Nat × CpInfo)) (last : Nat) : Array CpInfo := ⟨poolList es last⟩
def fileOf (pool : Array CpInfo) (this : Nat) (attrs : Array Attribute := #[]) (ms : Array MethodInfo := #[]) (fl : Nat := 33) (sup : Nat := 0) (ifs : Array Nat := #[]) (fds : Array FieldInfo := #[]) : ClassFile where
  minorVersion := 0
  majorVersion := 65
  constantPool := pool
  accessFlags := fl
  thisClass := this
  superClass := sup
  interfaces := ifs
  fields := fds
  methods := ms
  attributes := attrs
def plain (name : String) (sup : Option ClassId) : Class where
  name := name
  kind := .ordinary
  loader := none
  accessFlags := 33
  super := sup
  interfaces := #[]
  cf := none
  fields := #[]
  methods := #[]
  instanceTypes := #[]
  staticTypes := #[]
  resolved := #[]
  callSites := []
  init := .initialized
  statics := none
  mirror := none

def pool0 : Array CpInfo := pool [(5, u "<init>"), (0, u "()V"), (1, .class_ 10), (1, u "java/lang/Object")] 113

def k0c0 : Code := { maxStack := 0, maxLocals := 1, code := object_method_1_code, exceptionTable := #[], attributes := #[] }
def k0m0 : Method := { name := "<init>", desc := "()V", sig := { parameters := [], returnType := none }, accessFlags := 1, code := some k0c0 }
/-- java/lang/Object -/
def k0 : Class := { plain "java/lang/Object" none with
  accessFlags := 33
  interfaces := #[]
  cf := some (fileOf pool0 8 #[] #[{ accessFlags := 1, nameIndex := 5, descriptorIndex := 6, attributes := #[] }] 33 0 #[] #[])
  fields := #[]
  methods := #[k0m0]
  instanceTypes := #[]
  staticTypes := #[]
  resolved := Array.replicate 124 none
  statics := none }

def pool1 : Array CpInfo := pool [(2, .class_ 4), (1, u "java/lang/Object"), (0, u "<init>"), (0, u "()V"), (0, .class_ 8), (0, u "java/lang/String"), (0, .methodref 7 10), (0, .nameAndType 5 11), (0, u "([C)V"), (0, .methodref 13 14), (0, .class_ 15), (0, .nameAndType 16 17), (0, u "com/example/hord/hord/command/OptionToRepeatablePinLaw"), (0, u "str"), (0, u "(I)Ljava/lang/String;"), (0, .class_ 19), (0, u "com/example/hord/hord/command/Option"), (0, .methodref 18 21), (0, .nameAndType 5 22), (0, u "(Ljava/lang/String;Ljava/lang/String;Ljava/lang/String;ZZLjava/lang/String;)V"), (0, .methodref 18 24), (0, .nameAndType 25 26), (0, u "toRepeatable"), (0, u "()Lcom/example/hord/hord/command/Option;"), (0, .methodref 18 28), (0, .nameAndType 29 30), (0, u "defaultValue"), (0, u "()Ljava/lang/String;"), (0, .methodref 7 32), (0, .nameAndType 33 34), (0, u "equals"), (0, u "(Ljava/lang/Object;)Z"), (0, .methodref 18 36), (0, .nameAndType 37 30), (0, u "name"), (0, .methodref 18 39), (0, .nameAndType 40 30), (0, u "value"), (0, .methodref 18 42), (0, .nameAndType 43 44), (0, u "required"), (0, u "()Z"), (0, .methodref 18 46), (0, .nameAndType 47 44), (0, u "repeatable"), (0, .methodref 18 49), (0, .nameAndType 50 30), (0, u "description"), (3, u "law"), (0, u "(IIIII)Z")] 2

def k1m0 : Method := { name := "<init>", desc := "()V", sig := { parameters := [], returnType := none }, accessFlags := 1, code := none }
def k1c1 : Code := { maxStack := 3, maxLocals := 5, code := method_2_code, exceptionTable := #[], attributes := #[] }
def k1m1 : Method := { name := "str", desc := "(I)Ljava/lang/String;", sig := { parameters := [.int], returnType := some (.object "java/lang/String") }, accessFlags := 10, code := some k1c1 }
def k1c2 : Code := { maxStack := 8, maxLocals := 14, code := code, exceptionTable := #[], attributes := #[] }
def k1m2 : Method := { name := "law", desc := "(IIIII)Z", sig := { parameters := [.int, .int, .int, .int, .int], returnType := some .boolean }, accessFlags := 9, code := some k1c2 }
/-- com/example/hord/hord/command/OptionToRepeatablePinLaw -/
def k1 : Class := { plain "com/example/hord/hord/command/OptionToRepeatablePinLaw" (some 0) with
  accessFlags := 49
  interfaces := #[]
  cf := some (fileOf pool1 13 #[] #[{ accessFlags := 1, nameIndex := 5, descriptorIndex := 6, attributes := #[] }, { accessFlags := 10, nameIndex := 16, descriptorIndex := 17, attributes := #[] }, { accessFlags := 9, nameIndex := 54, descriptorIndex := 55, attributes := #[] }] 49 2 #[] #[])
  fields := #[]
  methods := #[k1m0, k1m1, k1m2]
  instanceTypes := #[]
  staticTypes := #[]
  resolved := Array.replicate 58 none
  statics := none }

def pool2 : Array CpInfo := pool [(1, .class_ 2), (0, u "java/io/Serializable"), (0, .class_ 4), (0, u "java/lang/Object")] 2

/-- java/io/Serializable -/
def k2 : Class := { plain "java/io/Serializable" (some 0) with
  accessFlags := 1537
  interfaces := #[]
  cf := some (fileOf pool2 1 #[] #[] 1537 3 #[] #[])
  fields := #[]
  methods := #[]
  instanceTypes := #[]
  staticTypes := #[]
  resolved := Array.replicate 7 none
  statics := none }

def pool3 : Array CpInfo := pool [(1, .class_ 2), (0, u "java/lang/Comparable"), (0, .class_ 4), (0, u "java/lang/Object")] 7

/-- java/lang/Comparable -/
def k3 : Class := { plain "java/lang/Comparable" (some 0) with
  accessFlags := 1537
  interfaces := #[]
  cf := some (fileOf pool3 1 #[] #[] 1537 3 #[] #[])
  fields := #[]
  methods := #[]
  instanceTypes := #[]
  staticTypes := #[]
  resolved := Array.replicate 12 none
  statics := none }

def pool4 : Array CpInfo := pool [(2, .class_ 4), (1, u "java/lang/CharSequence"), (42, .class_ 48), (0, u "java/lang/CharSequence$1CodePointIterator"), (10, .class_ 60), (0, u "java/lang/CharSequence$1CharIterator"), (5, .class_ 67), (0, u "java/lang/Object")] 63

/-- java/lang/CharSequence -/
def k4 : Class := { plain "java/lang/CharSequence" (some 0) with
  accessFlags := 1537
  interfaces := #[]
  cf := some (fileOf pool4 2 #[.nestMembers #[47, 59]] #[] 1537 66 #[] #[])
  fields := #[]
  methods := #[]
  instanceTypes := #[]
  staticTypes := #[]
  resolved := Array.replicate 131 none
  statics := none }

def pool5 : Array CpInfo := pool [(1, .class_ 2), (0, u "java/lang/constant/Constable"), (0, .class_ 4), (0, u "java/lang/Object")] 6

/-- java/lang/constant/Constable -/
def k5 : Class := { plain "java/lang/constant/Constable" (some 0) with
  accessFlags := 1537
  interfaces := #[]
  cf := some (fileOf pool5 1 #[] #[] 1537 3 #[] #[])
  fields := #[]
  methods := #[]
  instanceTypes := #[]
  staticTypes := #[]
  resolved := Array.replicate 11 none
  statics := none }

def pool6 : Array CpInfo := pool [(1, .class_ 2), (0, u "java/lang/constant/ConstantDesc"), (0, .class_ 4), (0, u "java/lang/Object")] 32

/-- java/lang/constant/ConstantDesc -/
def k6 : Class := { plain "java/lang/constant/ConstantDesc" (some 0) with
  accessFlags := 1537
  interfaces := #[]
  cf := some (fileOf pool6 1 #[] #[] 1537 3 #[] #[])
  fields := #[]
  methods := #[]
  instanceTypes := #[]
  staticTypes := #[]
  resolved := Array.replicate 37 none
  statics := none }

def pool7 : Array CpInfo := pool [(1, .methodref 2 3), (0, .class_ 4), (0, .nameAndType 5 6), (0, u "java/lang/Object"), (0, u "<init>"), (0, u "()V"), (0, .string 8), (0, u ""), (0, .fieldref 10 11), (0, .class_ 12), (0, .nameAndType 13 14), (0, u "java/lang/String"), (0, u "value"), (0, u "[B"), (0, .fieldref 10 16), (0, .nameAndType 17 18), (0, u "coder"), (0, u "B"), (2, u "hash"), (0, u "I"), (2, u "hashIsZero"), (0, u "Z"), (0, .methodref 10 28), (0, .nameAndType 5 29), (0, u "([CIILjava/lang/Void;)V"), (8, .fieldref 10 39), (0, .nameAndType 40 26), (0, u "COMPACT_STRINGS"), (1, .class_ 44), (1, u "java/lang/StringUTF16"), (0, u "compress"), (1, .methodref 42 48), (0, .nameAndType 49 50), (0, u "coderFromArrayLen"), (0, u "([BI)B"), (126, .methodref 42 178), (0, .nameAndType 45 179), (0, u "([CII)[B"), (363, u "equals"), (29, u "(Ljava/lang/Object;)Z"), (1, .class_ 576), (0, u "java/lang/CharSequence"), (22, u "CASE_INSENSITIVE_ORDER"), (0, u "Ljava/util/Comparator;"), (409, u "([C)V"), (90, u "serialPersistentFields"), (0, u "[Ljava/io/ObjectStreamField;"), (0, .class_ 1104), (0, u "java/lang/String$CaseInsensitiveComparator"), (1, .class_ 1107), (0, u "java/io/Serializable"), (0, .class_ 1109), (0, u "java/lang/Comparable"), (0, .class_ 1111), (0, u "java/lang/constant/Constable"), (0, .class_ 1113), (0, u "java/lang/constant/ConstantDesc"), (2, u "serialVersionUID"), (0, u "J"), (3, u "REPL"), (0, u "C"), (2, u "LATIN1"), (1, u "UTF16")] 323

def k7m0 : Method := { name := "<init>", desc := "()V", sig := { parameters := [], returnType := none }, accessFlags := 1, code := none }
def k7c1 : Code := { maxStack := 5, maxLocals := 2, code := jdk_42_method_3_code, exceptionTable := #[], attributes := #[] }
def k7m1 : Method := { name := "<init>", desc := "([C)V", sig := { parameters := [(.array .char)], returnType := none }, accessFlags := 1, code := some k7c1 }
def k7c2 : Code := { maxStack := 2, maxLocals := 3, code := jdk_42_method_66_code, exceptionTable := #[], attributes := #[] }
def k7m2 : Method := { name := "equals", desc := "(Ljava/lang/Object;)Z", sig := { parameters := [(.object "java/lang/Object")], returnType := some .boolean }, accessFlags := 1, code := some k7c2 }
def k7c3 : Code := { maxStack := 4, maxLocals := 6, code := jdk_42_method_149_code, exceptionTable := #[], attributes := #[] }
def k7m3 : Method := { name := "<init>", desc := "([CIILjava/lang/Void;)V", sig := { parameters := [(.array .char), .int, .int, (.object "java/lang/Void")], returnType := none }, accessFlags := 2, code := some k7c3 }
/-- java/lang/String -/
def k7 : Class := { plain "java/lang/String" (some 0) with
  accessFlags := 49
  interfaces := #[2, 3, 4, 5, 6]
  cf := some (fileOf pool7 10 #[.nestMembers #[1103]] #[{ accessFlags := 1, nameIndex := 5, descriptorIndex := 6, attributes := #[] }, { accessFlags := 1, nameIndex := 5, descriptorIndex := 1010, attributes := #[] }, { accessFlags := 1, nameIndex := 543, descriptorIndex := 573, attributes := #[] }, { accessFlags := 2, nameIndex := 5, descriptorIndex := 29, attributes := #[] }] 49 2 #[1106, 1108, 575, 1110, 1112] #[{ accessFlags := 18, nameIndex := 13, descriptorIndex := 14, attributes := #[] }, { accessFlags := 18, nameIndex := 17, descriptorIndex := 18, attributes := #[] }, { accessFlags := 2, nameIndex := 21, descriptorIndex := 22, attributes := #[] }, { accessFlags := 2, nameIndex := 25, descriptorIndex := 26, attributes := #[] }, { accessFlags := 26, nameIndex := 1116, descriptorIndex := 1117, attributes := #[] }, { accessFlags := 24, nameIndex := 40, descriptorIndex := 26, attributes := #[] }, { accessFlags := 26, nameIndex := 1101, descriptorIndex := 1102, attributes := #[] }, { accessFlags := 26, nameIndex := 1121, descriptorIndex := 1122, attributes := #[] }, { accessFlags := 25, nameIndex := 599, descriptorIndex := 600, attributes := #[] }, { accessFlags := 24, nameIndex := 1125, descriptorIndex := 18, attributes := #[] }, { accessFlags := 24, nameIndex := 1127, descriptorIndex := 18, attributes := #[] }])
  fields := #[{ name := "value", type := (.array .byte), accessFlags := 18, slot := 0, constantValue := 0 }, { name := "coder", type := .byte, accessFlags := 18, slot := 1, constantValue := 0 }, { name := "hash", type := .int, accessFlags := 2, slot := 2, constantValue := 0 }, { name := "hashIsZero", type := .boolean, accessFlags := 2, slot := 3, constantValue := 0 }, { name := "serialVersionUID", type := .long, accessFlags := 26, slot := 0, constantValue := 0 }, { name := "COMPACT_STRINGS", type := .boolean, accessFlags := 24, slot := 1, constantValue := 0 }, { name := "serialPersistentFields", type := (.array (.object "java/io/ObjectStreamField")), accessFlags := 26, slot := 2, constantValue := 0 }, { name := "REPL", type := .char, accessFlags := 26, slot := 3, constantValue := 0 }, { name := "CASE_INSENSITIVE_ORDER", type := (.object "java/util/Comparator"), accessFlags := 25, slot := 4, constantValue := 0 }, { name := "LATIN1", type := .byte, accessFlags := 24, slot := 5, constantValue := 0 }, { name := "UTF16", type := .byte, accessFlags := 24, slot := 6, constantValue := 0 }]
  methods := #[k7m0, k7m1, k7m2, k7m3]
  instanceTypes := #[(.array .byte), .byte, .int, .boolean]
  staticTypes := #[.long, .boolean, (.array (.object "java/io/ObjectStreamField")), .char, (.object "java/util/Comparator"), .byte, .byte]
  resolved := Array.replicate 1451 none
  statics := some 0 }

def pool8 : Array CpInfo := pool [(1, .methodref 2 3), (0, .class_ 4), (0, .nameAndType 5 6), (0, u "java/lang/Object"), (0, u "<init>"), (0, u "()V"), (0, .class_ 8), (0, u "java/lang/Record")] 13

def k8c0 : Code := { maxStack := 1, maxLocals := 1, code := jdk_30_method_1_code, exceptionTable := #[], attributes := #[] }
def k8m0 : Method := { name := "<init>", desc := "()V", sig := { parameters := [], returnType := none }, accessFlags := 4, code := some k8c0 }
/-- java/lang/Record -/
def k8 : Class := { plain "java/lang/Record" (some 0) with
  accessFlags := 1057
  interfaces := #[]
  cf := some (fileOf pool8 7 #[] #[{ accessFlags := 4, nameIndex := 5, descriptorIndex := 6, attributes := #[] }] 1057 2 #[] #[])
  fields := #[]
  methods := #[k8m0]
  instanceTypes := #[]
  staticTypes := #[]
  resolved := Array.replicate 22 none
  statics := none }

def pool9 : Array CpInfo := pool [(1, .methodref 2 3), (0, .class_ 4), (0, .nameAndType 5 6), (0, u "java/lang/Record"), (0, u "<init>"), (0, u "()V"), (0, .fieldref 8 9), (0, .class_ 10), (0, .nameAndType 11 12), (0, u "com/example/hord/hord/command/Option"), (0, u "name"), (0, u "Ljava/lang/String;"), (0, .fieldref 8 14), (0, .nameAndType 15 12), (0, u "value"), (0, .fieldref 8 17), (0, .nameAndType 18 12), (0, u "defaultValue"), (0, .fieldref 8 20), (0, .nameAndType 21 22), (0, u "required"), (0, u "Z"), (0, .fieldref 8 24), (0, .nameAndType 25 22), (0, u "repeatable"), (0, .fieldref 8 27), (0, .nameAndType 28 12), (0, u "description"), (0, .methodref 8 30), (0, .nameAndType 5 31), (0, u "(Ljava/lang/String;Ljava/lang/String;Ljava/lang/String;ZZLjava/lang/String;)V"), (54, u "()Ljava/lang/String;"), (34, u "toRepeatable"), (0, u "()Lcom/example/hord/hord/command/Option;"), (2, u "()Z")] 36

def k9c0 : Code := { maxStack := 2, maxLocals := 7, code := prog_21_method_1_code, exceptionTable := #[], attributes := #[] }
def k9m0 : Method := { name := "<init>", desc := "(Ljava/lang/String;Ljava/lang/String;Ljava/lang/String;ZZLjava/lang/String;)V", sig := { parameters := [(.object "java/lang/String"), (.object "java/lang/String"), (.object "java/lang/String"), .boolean, .boolean, (.object "java/lang/String")], returnType := none }, accessFlags := 1, code := some k9c0 }
def k9c1 : Code := { maxStack := 8, maxLocals := 1, code := prog_21_method_7_code, exceptionTable := #[], attributes := #[] }
def k9m1 : Method := { name := "toRepeatable", desc := "()Lcom/example/hord/hord/command/Option;", sig := { parameters := [], returnType := some (.object "com/example/hord/hord/command/Option") }, accessFlags := 1, code := some k9c1 }
def k9c2 : Code := { maxStack := 1, maxLocals := 1, code := prog_21_method_11_code, exceptionTable := #[], attributes := #[] }
def k9m2 : Method := { name := "name", desc := "()Ljava/lang/String;", sig := { parameters := [], returnType := some (.object "java/lang/String") }, accessFlags := 1, code := some k9c2 }
def k9c3 : Code := { maxStack := 1, maxLocals := 1, code := prog_21_method_12_code, exceptionTable := #[], attributes := #[] }
def k9m3 : Method := { name := "value", desc := "()Ljava/lang/String;", sig := { parameters := [], returnType := some (.object "java/lang/String") }, accessFlags := 1, code := some k9c3 }
def k9c4 : Code := { maxStack := 1, maxLocals := 1, code := prog_21_method_13_code, exceptionTable := #[], attributes := #[] }
def k9m4 : Method := { name := "defaultValue", desc := "()Ljava/lang/String;", sig := { parameters := [], returnType := some (.object "java/lang/String") }, accessFlags := 1, code := some k9c4 }
def k9c5 : Code := { maxStack := 1, maxLocals := 1, code := prog_21_method_14_code, exceptionTable := #[], attributes := #[] }
def k9m5 : Method := { name := "required", desc := "()Z", sig := { parameters := [], returnType := some .boolean }, accessFlags := 1, code := some k9c5 }
def k9c6 : Code := { maxStack := 1, maxLocals := 1, code := prog_21_method_15_code, exceptionTable := #[], attributes := #[] }
def k9m6 : Method := { name := "repeatable", desc := "()Z", sig := { parameters := [], returnType := some .boolean }, accessFlags := 1, code := some k9c6 }
def k9c7 : Code := { maxStack := 1, maxLocals := 1, code := prog_21_method_16_code, exceptionTable := #[], attributes := #[] }
def k9m7 : Method := { name := "description", desc := "()Ljava/lang/String;", sig := { parameters := [], returnType := some (.object "java/lang/String") }, accessFlags := 1, code := some k9c7 }
/-- com/example/hord/hord/command/Option -/
def k9 : Class := { plain "com/example/hord/hord/command/Option" (some 8) with
  accessFlags := 49
  interfaces := #[]
  cf := some (fileOf pool9 8 #[] #[{ accessFlags := 1, nameIndex := 5, descriptorIndex := 31, attributes := #[] }, { accessFlags := 1, nameIndex := 121, descriptorIndex := 122, attributes := #[] }, { accessFlags := 1, nameIndex := 11, descriptorIndex := 86, attributes := #[] }, { accessFlags := 1, nameIndex := 15, descriptorIndex := 86, attributes := #[] }, { accessFlags := 1, nameIndex := 18, descriptorIndex := 86, attributes := #[] }, { accessFlags := 1, nameIndex := 21, descriptorIndex := 125, attributes := #[] }, { accessFlags := 1, nameIndex := 25, descriptorIndex := 125, attributes := #[] }, { accessFlags := 1, nameIndex := 28, descriptorIndex := 86, attributes := #[] }] 49 2 #[] #[{ accessFlags := 18, nameIndex := 11, descriptorIndex := 12, attributes := #[] }, { accessFlags := 18, nameIndex := 15, descriptorIndex := 12, attributes := #[] }, { accessFlags := 18, nameIndex := 18, descriptorIndex := 12, attributes := #[] }, { accessFlags := 18, nameIndex := 21, descriptorIndex := 22, attributes := #[] }, { accessFlags := 18, nameIndex := 25, descriptorIndex := 22, attributes := #[] }, { accessFlags := 18, nameIndex := 28, descriptorIndex := 12, attributes := #[] }])
  fields := #[{ name := "name", type := (.object "java/lang/String"), accessFlags := 18, slot := 0, constantValue := 0 }, { name := "value", type := (.object "java/lang/String"), accessFlags := 18, slot := 1, constantValue := 0 }, { name := "defaultValue", type := (.object "java/lang/String"), accessFlags := 18, slot := 2, constantValue := 0 }, { name := "required", type := .boolean, accessFlags := 18, slot := 3, constantValue := 0 }, { name := "repeatable", type := .boolean, accessFlags := 18, slot := 4, constantValue := 0 }, { name := "description", type := (.object "java/lang/String"), accessFlags := 18, slot := 5, constantValue := 0 }]
  methods := #[k9m0, k9m1, k9m2, k9m3, k9m4, k9m5, k9m6, k9m7]
  instanceTypes := #[(.object "java/lang/String"), (.object "java/lang/String"), (.object "java/lang/String"), .boolean, .boolean, (.object "java/lang/String")]
  staticTypes := #[]
  resolved := Array.replicate 162 none
  statics := none }

def pool10 : Array CpInfo := pool [(6, .class_ 8), (1, u "java/lang/Object"), (0, u "<init>"), (0, u "()V"), (1, .class_ 14), (1, u "java/lang/StringUTF16"), (31, u "$assertionsDisabled"), (0, u "Z"), (13, u "HI_BYTE_SHIFT"), (0, u "I"), (2, u "LO_BYTE_SHIFT"), (49, .methodref 12 116), (0, .nameAndType 117 118), (0, u "compress"), (0, u "([CI[BII)I"), (3, u "([CII)[B"), (138, u "coderFromArrayLen"), (0, u "([BI)B"), (106, .class_ 371), (1, u "java/lang/StringUTF16$LinesSpliterator"), (58, u "MAX_LENGTH"), (196, .class_ 628), (0, u "java/lang/StringUTF16$CodePointsSpliterator"), (0, .class_ 630), (0, u "java/lang/StringUTF16$CharsSpliterator")] 4

def k10m0 : Method := { name := "<init>", desc := "()V", sig := { parameters := [], returnType := none }, accessFlags := 0, code := none }
def k10c1 : Code := { maxStack := 2, maxLocals := 2, code := jdk_52_method_15_code, exceptionTable := #[], attributes := #[] }
def k10m1 : Method := { name := "coderFromArrayLen", desc := "([BI)B", sig := { parameters := [(.array .byte), .int], returnType := some .byte }, accessFlags := 8, code := some k10c1 }
def k10c2 : Code := { maxStack := 5, maxLocals := 6, code := jdk_52_method_16_code, exceptionTable := #[], attributes := #[] }
def k10m2 : Method := { name := "compress", desc := "([CII)[B", sig := { parameters := [(.array .char), .int, .int], returnType := some (.array .byte) }, accessFlags := 9, code := some k10c2 }
def k10c3 : Code := { maxStack := 3, maxLocals := 7, code := jdk_52_method_21_code, exceptionTable := #[], attributes := #[] }
def k10m3 : Method := { name := "compress", desc := "([CI[BII)I", sig := { parameters := [(.array .char), .int, (.array .byte), .int, .int], returnType := some .int }, accessFlags := 9, code := some k10c3 }
/-- java/lang/StringUTF16 -/
def k10 : Class := { plain "java/lang/StringUTF16" (some 0) with
  accessFlags := 48
  interfaces := #[]
  cf := some (fileOf pool10 12 #[.nestMembers #[627, 629, 369]] #[{ accessFlags := 0, nameIndex := 9, descriptorIndex := 10, attributes := #[] }, { accessFlags := 8, nameIndex := 261, descriptorIndex := 262, attributes := #[] }, { accessFlags := 9, nameIndex := 117, descriptorIndex := 122, attributes := #[] }, { accessFlags := 9, nameIndex := 117, descriptorIndex := 118, attributes := #[] }] 48 6 #[] #[{ accessFlags := 26, nameIndex := 61, descriptorIndex := 62, attributes := #[] }, { accessFlags := 26, nameIndex := 65, descriptorIndex := 62, attributes := #[] }, { accessFlags := 24, nameIndex := 430, descriptorIndex := 62, attributes := #[] }, { accessFlags := 4120, nameIndex := 46, descriptorIndex := 47, attributes := #[] }])
  fields := #[{ name := "HI_BYTE_SHIFT", type := .int, accessFlags := 26, slot := 0, constantValue := 0 }, { name := "LO_BYTE_SHIFT", type := .int, accessFlags := 26, slot := 1, constantValue := 0 }, { name := "MAX_LENGTH", type := .int, accessFlags := 24, slot := 2, constantValue := 0 }, { name := "$assertionsDisabled", type := .boolean, accessFlags := 4120, slot := 3, constantValue := 0 }]
  methods := #[k10m0, k10m1, k10m2, k10m3]
  instanceTypes := #[]
  staticTypes := #[.int, .int, .int, .boolean]
  resolved := Array.replicate 635 none
  statics := none }

def pool11 : Array CpInfo := pool [(4, .class_ 6), (1, u "java/lang/Object"), (0, u "<init>"), (0, u "()V"), (5, .class_ 16), (1, u "java/lang/StringLatin1"), (104, u "$assertionsDisabled"), (0, u "Z"), (98, .class_ 223), (1, u "java/lang/StringLatin1$LinesSpliterator"), (166, .class_ 391), (0, u "java/lang/StringLatin1$CharsSpliterator")] 3

def k11m0 : Method := { name := "<init>", desc := "()V", sig := { parameters := [], returnType := none }, accessFlags := 0, code := none }
/-- java/lang/StringLatin1 -/
def k11 : Class := { plain "java/lang/StringLatin1" (some 0) with
  accessFlags := 48
  interfaces := #[]
  cf := some (fileOf pool11 14 #[.nestMembers #[390, 221]] #[{ accessFlags := 0, nameIndex := 7, descriptorIndex := 8, attributes := #[] }] 48 4 #[] #[{ accessFlags := 4120, nameIndex := 121, descriptorIndex := 122, attributes := #[] }])
  fields := #[{ name := "$assertionsDisabled", type := .boolean, accessFlags := 4120, slot := 0, constantValue := 0 }]
  methods := #[k11m0]
  instanceTypes := #[]
  staticTypes := #[.boolean]
  resolved := Array.replicate 395 none
  statics := none }

def pool12 : Array CpInfo := pool [(2, .class_ 4), (1, u "java/lang/Object"), (0, u "<init>"), (0, u "()V"), (17, .class_ 26), (1, u "jdk/internal/util/Preconditions"), (28, .class_ 56), (0, u "jdk/internal/util/Preconditions$4"), (57, .class_ 115), (0, u "jdk/internal/util/Preconditions$1"), (7, u "SIOOBE_FORMATTER"), (0, u "Ljava/util/function/BiFunction;"), (0, .class_ 126), (0, u "jdk/internal/util/Preconditions$2"), (3, u "AIOOBE_FORMATTER"), (0, .class_ 132), (0, u "jdk/internal/util/Preconditions$3"), (3, u "IOOBE_FORMATTER")] 57

def k12m0 : Method := { name := "<init>", desc := "()V", sig := { parameters := [], returnType := none }, accessFlags := 1, code := none }
/-- jdk/internal/util/Preconditions -/
def k12 : Class := { plain "jdk/internal/util/Preconditions" (some 0) with
  accessFlags := 33
  interfaces := #[]
  cf := some (fileOf pool12 24 #[.nestMembers #[55, 131, 125, 114]] #[{ accessFlags := 1, nameIndex := 5, descriptorIndex := 6, attributes := #[] }] 33 2 #[] #[{ accessFlags := 25, nameIndex := 123, descriptorIndex := 124, attributes := #[] }, { accessFlags := 25, nameIndex := 130, descriptorIndex := 124, attributes := #[] }, { accessFlags := 25, nameIndex := 136, descriptorIndex := 124, attributes := #[] }])
  fields := #[{ name := "SIOOBE_FORMATTER", type := (.object "java/util/function/BiFunction"), accessFlags := 25, slot := 0, constantValue := 0 }, { name := "AIOOBE_FORMATTER", type := (.object "java/util/function/BiFunction"), accessFlags := 25, slot := 1, constantValue := 0 }, { name := "IOOBE_FORMATTER", type := (.object "java/util/function/BiFunction"), accessFlags := 25, slot := 2, constantValue := 0 }]
  methods := #[k12m0]
  instanceTypes := #[]
  staticTypes := #[(.object "java/util/function/BiFunction"), (.object "java/util/function/BiFunction"), (.object "java/util/function/BiFunction")]
  resolved := Array.replicate 194 none
  statics := some 1 }

def pool13 : Array CpInfo := pool [(9, u "<init>"), (6, .class_ 18), (1, u "java/lang/Object"), (0, u "()V"), (1, .class_ 23), (1, u "jdk/internal/util/ArraysSupport"), (0, u "LOG2_ARRAY_LONG_INDEX_SCALE"), (0, u "I"), (2, u "U"), (0, u "Ljdk/internal/misc/Unsafe;"), (8, u "BIG_ENDIAN"), (0, u "Z"), (8, u "LOG2_BYTE_BIT_SIZE"), (4, u "LOG2_ARRAY_INT_INDEX_SCALE"), (54, u "JLA"), (0, u "Ljdk/internal/access/JavaLangAccess;"), (11, u "LOG2_ARRAY_BOOLEAN_INDEX_SCALE"), (9, u "LOG2_ARRAY_BYTE_INDEX_SCALE"), (5, u "LOG2_ARRAY_CHAR_INDEX_SCALE"), (5, u "LOG2_ARRAY_SHORT_INDEX_SCALE"), (18, u "LOG2_ARRAY_FLOAT_INDEX_SCALE"), (24, u "LOG2_ARRAY_DOUBLE_INDEX_SCALE"), (89, u "T_BOOLEAN"), (2, u "T_CHAR"), (1, u "T_FLOAT"), (1, u "T_DOUBLE"), (1, u "T_BYTE"), (1, u "T_SHORT"), (1, u "T_INT"), (1, u "T_LONG"), (1, u "SOFT_MAX_ARRAY_LENGTH")] 83

def k13m0 : Method := { name := "<init>", desc := "()V", sig := { parameters := [], returnType := none }, accessFlags := 2, code := none }
/-- jdk/internal/util/ArraysSupport -/
def k13 : Class := { plain "jdk/internal/util/ArraysSupport" (some 0) with
  accessFlags := 33
  interfaces := #[]
  cf := some (fileOf pool13 21 #[] #[{ accessFlags := 2, nameIndex := 9, descriptorIndex := 19, attributes := #[] }] 33 16 #[] #[{ accessFlags := 24, nameIndex := 28, descriptorIndex := 29, attributes := #[] }, { accessFlags := 26, nameIndex := 38, descriptorIndex := 39, attributes := #[] }, { accessFlags := 25, nameIndex := 121, descriptorIndex := 25, attributes := #[] }, { accessFlags := 25, nameIndex := 131, descriptorIndex := 25, attributes := #[] }, { accessFlags := 25, nameIndex := 137, descriptorIndex := 25, attributes := #[] }, { accessFlags := 25, nameIndex := 143, descriptorIndex := 25, attributes := #[] }, { accessFlags := 25, nameIndex := 53, descriptorIndex := 25, attributes := #[] }, { accessFlags := 25, nameIndex := 24, descriptorIndex := 25, attributes := #[] }, { accessFlags := 25, nameIndex := 162, descriptorIndex := 25, attributes := #[] }, { accessFlags := 25, nameIndex := 187, descriptorIndex := 25, attributes := #[] }, { accessFlags := 26, nameIndex := 48, descriptorIndex := 25, attributes := #[] }, { accessFlags := 25, nameIndex := 277, descriptorIndex := 25, attributes := #[] }, { accessFlags := 25, nameIndex := 280, descriptorIndex := 25, attributes := #[] }, { accessFlags := 25, nameIndex := 282, descriptorIndex := 25, attributes := #[] }, { accessFlags := 25, nameIndex := 284, descriptorIndex := 25, attributes := #[] }, { accessFlags := 25, nameIndex := 286, descriptorIndex := 25, attributes := #[] }, { accessFlags := 25, nameIndex := 288, descriptorIndex := 25, attributes := #[] }, { accessFlags := 25, nameIndex := 290, descriptorIndex := 25, attributes := #[] }, { accessFlags := 25, nameIndex := 292, descriptorIndex := 25, attributes := #[] }, { accessFlags := 26, nameIndex := 108, descriptorIndex := 109, attributes := #[] }, { accessFlags := 25, nameIndex := 294, descriptorIndex := 25, attributes := #[] }])
  fields := #[{ name := "U", type := (.object "jdk/internal/misc/Unsafe"), accessFlags := 24, slot := 0, constantValue := 0 }, { name := "BIG_ENDIAN", type := .boolean, accessFlags := 26, slot := 1, constantValue := 0 }, { name := "LOG2_ARRAY_BOOLEAN_INDEX_SCALE", type := .int, accessFlags := 25, slot := 2, constantValue := 0 }, { name := "LOG2_ARRAY_BYTE_INDEX_SCALE", type := .int, accessFlags := 25, slot := 3, constantValue := 0 }, { name := "LOG2_ARRAY_CHAR_INDEX_SCALE", type := .int, accessFlags := 25, slot := 4, constantValue := 0 }, { name := "LOG2_ARRAY_SHORT_INDEX_SCALE", type := .int, accessFlags := 25, slot := 5, constantValue := 0 }, { name := "LOG2_ARRAY_INT_INDEX_SCALE", type := .int, accessFlags := 25, slot := 6, constantValue := 0 }, { name := "LOG2_ARRAY_LONG_INDEX_SCALE", type := .int, accessFlags := 25, slot := 7, constantValue := 0 }, { name := "LOG2_ARRAY_FLOAT_INDEX_SCALE", type := .int, accessFlags := 25, slot := 8, constantValue := 0 }, { name := "LOG2_ARRAY_DOUBLE_INDEX_SCALE", type := .int, accessFlags := 25, slot := 9, constantValue := 0 }, { name := "LOG2_BYTE_BIT_SIZE", type := .int, accessFlags := 26, slot := 10, constantValue := 0 }, { name := "T_BOOLEAN", type := .int, accessFlags := 25, slot := 11, constantValue := 0 }, { name := "T_CHAR", type := .int, accessFlags := 25, slot := 12, constantValue := 0 }, { name := "T_FLOAT", type := .int, accessFlags := 25, slot := 13, constantValue := 0 }, { name := "T_DOUBLE", type := .int, accessFlags := 25, slot := 14, constantValue := 0 }, { name := "T_BYTE", type := .int, accessFlags := 25, slot := 15, constantValue := 0 }, { name := "T_SHORT", type := .int, accessFlags := 25, slot := 16, constantValue := 0 }, { name := "T_INT", type := .int, accessFlags := 25, slot := 17, constantValue := 0 }, { name := "T_LONG", type := .int, accessFlags := 25, slot := 18, constantValue := 0 }, { name := "JLA", type := (.object "jdk/internal/access/JavaLangAccess"), accessFlags := 26, slot := 19, constantValue := 0 }, { name := "SOFT_MAX_ARRAY_LENGTH", type := .int, accessFlags := 25, slot := 20, constantValue := 0 }]
  methods := #[k13m0]
  instanceTypes := #[]
  staticTypes := #[(.object "jdk/internal/misc/Unsafe"), .boolean, .int, .int, .int, .int, .int, .int, .int, .int, .int, .int, .int, .int, .int, .int, .int, .int, .int, (.object "jdk/internal/access/JavaLangAccess"), .int]
  resolved := Array.replicate 378 none
  statics := none }

def pool14 : Array CpInfo := pool [(1, u "java/lang/Cloneable"), (0, .class_ 1), (0, u "java/lang/Object"), (0, .class_ 3)] 3

/-- java/lang/Cloneable -/
def k14 : Class := { plain "java/lang/Cloneable" (some 0) with
  accessFlags := 1537
  interfaces := #[]
  cf := some (fileOf pool14 2 #[] #[] 1537 4 #[] #[])
  fields := #[]
  methods := #[]
  instanceTypes := #[]
  staticTypes := #[]
  resolved := Array.replicate 8 none
  statics := none }

/-- the primitive byte -/
def k15 : Class := { plain "byte" none with kind := .primitive 'B', accessFlags := 0x411 }
/-- [B -/
def k16 : Class := { plain "[B" (some 0) with kind := .array 15 .byte, interfaces := #[14, 2], accessFlags := 1041 }

/-- the primitive char -/
def k17 : Class := { plain "char" none with kind := .primitive 'C', accessFlags := 0x411 }
/-- [C -/
def k18 : Class := { plain "[C" (some 0) with kind := .array 17 .char, interfaces := #[14, 2], accessFlags := 1041 }

/-- the primitive int -/
def k19 : Class := { plain "int" none with kind := .primitive 'I', accessFlags := 0x411 }
/-- [I -/
def k20 : Class := { plain "[I" (some 0) with kind := .array 19 .int, interfaces := #[14, 2], accessFlags := 1041 }

def heap : Heap := #[{ cls := 7, slots := #[.long 0, .int 1, .null, .int 0, .null, .int 0, .int 0], vm := .statics 7 },
  { cls := 12, slots := #[.null, .null, .null], vm := .statics 12 }]
def classes : Array Class := #[k0, k1, k2, k3, k4, k5, k6, k7, k8, k9, k10, k11, k12, k13, k14, k15, k16, k17, k18, k19, k20]
def interned : List (Array UInt16 × Addr) := []
def slotsUsed : Nat := 10
def theMethod : MethodId := ⟨1, 2⟩
def args0 : Array Value := #[.int 5, .int 5, .int 5, .int 5, .int 5]
def aboutOver (below : List Frame) : State where
  vm := { classes := classes, interned := interned.toArray }
  heap := heap
  slotsUsed := slotsUsed
  threads := #[{ frames := .invoking theMethod args0 :: below }]
def below0 : List Frame := [.native { method := ⟨0, 0⟩, args := #[] }]
def about1 : State := aboutOver below0
def p0 : Program := .bare "" "" ""
def e0 : Env := launch0.env 0 0 0
theorem w_frames : about1.frames = Frame.invoking theMethod args0 :: below0 := rfl
set_option maxRecDepth 65536 in
theorem w_args : argsFit about1.vm theMethod args0 = true := by decide +kernel
set_option maxRecDepth 65536 in
theorem w_heap : heapFits about1 = true := by decide +kernel
set_option maxRecDepth 65536 in
theorem w_runnable : about1.curStatus? = some .runnable := by decide +kernel
set_option maxRecDepth 65536 in
theorem w_alone : about1.alone = true := by decide +kernel
set_option maxRecDepth 65536 in
theorem w_named : about1.methodNamed? x = some theMethod := by decide +kernel
set_option maxRecDepth 65536 in
theorem w_hears : about1.hears theMethod below0 = true := by decide +kernel
set_option maxRecDepth 65536 in
theorem w_ripe : about1.ripe theMethod args0 below0 = true := by decide +kernel
theorem w_running : about1.status = .running := rfl
set_option maxRecDepth 65536 in
theorem w_room : about1.hasRoom e0.platform room_1 = true :=
  launch0.hasRoom_least _ room_1 (by decide +kernel) (by decide +kernel) (by decide +kernel) (by decide +kernel) (by decide +kernel) (by decide +kernel)
theorem allAtoms_all (ts : List Jvm.Cond) (a : Array Jvm.Value) (st : Jvm.State) : (allAtoms ts).before a st = ts.all (fun c => c.before a st) := by
  induction ts with
  | nil => rfl
  | cons c t ih =>
    show (Jvm.Cond.and c (allAtoms t)).before a st = _
    rw [Jvm.Cond.before_and, ih, List.all_cons]
def words1 : List Jvm.Cond := Jvm.Cond.code x code maxLocals ret :: tables_1
/-- a 'code' word, met by the world's own term for the bytes: nothing is compared byte by byte -/
theorem code_word {y : MethodName} {bytes : ByteArray} {mx : Nat} {rt : Option FieldType} {a : Array Value} {s : State} {m : MethodId} {meth : Method} {c : Code} (h1 : s.methodNamed? y = some m) (h2 : s.vm.method? m = some meth) (h3 : meth.code = some c) (h4 : c.code = bytes)
    (h5 : (c.maxLocals == mx && c.exceptionTable.isEmpty && decide (c.maxStack ≤ mostOperands) && decide (meth.sig.returnType = rt) && !meth.locks && decide (parseMethodDescriptor y.desc = some meth.sig)) = true) : (Jvm.Cond.code y bytes mx rt).before a s = true := by
  simp only [Bool.and_eq_true, beq_iff_eq, Bool.not_eq_true', decide_eq_true_eq] at h5
  obtain ⟨⟨⟨⟨⟨g1, g2⟩, g3⟩, g4⟩, g5⟩, g6⟩ := h5
  simp [Cond.before, Cond.holds, Cond.value, h1, h2, h3, h4, g1, g2, g3, g4, g5, g6]
def isCode : Jvm.Cond → Bool
  | .code _ _ _ _ => true
  | _ => false
theorem all_split {L : List Jvm.Cond} {P : Jvm.Cond → Bool} (h1 : L.all (fun c => isCode c || P c) = true) (h2 : ∀ c ∈ L.filter isCode, P c = true) : L.all P = true := by
  refine List.all_eq_true.mpr fun c hc => ?_
  have h := List.all_eq_true.mp h1 c hc
  rcases Bool.eq_false_or_eq_true (isCode c) with hi | hi
  · exact h2 c (List.mem_filter.mpr ⟨hc, hi⟩)
  · simpa [hi] using h
set_option maxRecDepth 65536 in
theorem w_c0 : (Jvm.Cond.code x code maxLocals ret).before args0 about1 = true := code_word (m := ⟨1, 2⟩) (meth := k1m2) (c := k1c2) (by decide +kernel) rfl rfl rfl (by decide +kernel)
set_option maxRecDepth 65536 in
theorem w_c1 : (Jvm.Cond.code ({ cls := "com/example/hord/hord/command/OptionToRepeatablePinLaw", name := "str", desc := "(I)Ljava/lang/String;" } : Jvm.MethodName) method_2_code (5 : Nat) (Option.some (Jvm.ClassFile.FieldType.object "java/lang/String"))).before args0 about1 = true := code_word (m := ⟨1, 1⟩) (meth := k1m1) (c := k1c1) (by decide +kernel) rfl rfl rfl (by decide +kernel)
set_option maxRecDepth 65536 in
theorem w_c2 : (Jvm.Cond.code ({ cls := "java/lang/String", name := "<init>", desc := "([C)V" } : Jvm.MethodName) jdk_42_method_3_code (2 : Nat) (Option.none : Option Jvm.ClassFile.FieldType)).before args0 about1 = true := code_word (m := ⟨7, 1⟩) (meth := k7m1) (c := k7c1) (by decide +kernel) rfl rfl rfl (by decide +kernel)
set_option maxRecDepth 65536 in
theorem w_c3 : (Jvm.Cond.code ({ cls := "java/lang/String", name := "<init>", desc := "([CIILjava/lang/Void;)V" } : Jvm.MethodName) jdk_42_method_149_code (6 : Nat) (Option.none : Option Jvm.ClassFile.FieldType)).before args0 about1 = true := code_word (m := ⟨7, 3⟩) (meth := k7m3) (c := k7c3) (by decide +kernel) rfl rfl rfl (by decide +kernel)
set_option maxRecDepth 65536 in
theorem w_c4 : (Jvm.Cond.code ({ cls := "java/lang/Object", name := "<init>", desc := "()V" } : Jvm.MethodName) object_method_1_code (1 : Nat) (Option.none : Option Jvm.ClassFile.FieldType)).before args0 about1 = true := code_word (m := ⟨0, 0⟩) (meth := k0m0) (c := k0c0) (by decide +kernel) rfl rfl rfl (by decide +kernel)
set_option maxRecDepth 65536 in
theorem w_c5 : (Jvm.Cond.code ({ cls := "com/example/hord/hord/command/Option", name := "<init>", desc := "(Ljava/lang/String;Ljava/lang/String;Ljava/lang/String;ZZLjava/lang/String;)V" } : Jvm.MethodName) prog_21_method_1_code (7 : Nat) (Option.none : Option Jvm.ClassFile.FieldType)).before args0 about1 = true := code_word (m := ⟨9, 0⟩) (meth := k9m0) (c := k9c0) (by decide +kernel) rfl rfl rfl (by decide +kernel)
set_option maxRecDepth 65536 in
theorem w_c6 : (Jvm.Cond.code ({ cls := "java/lang/Record", name := "<init>", desc := "()V" } : Jvm.MethodName) jdk_30_method_1_code (1 : Nat) (Option.none : Option Jvm.ClassFile.FieldType)).before args0 about1 = true := code_word (m := ⟨8, 0⟩) (meth := k8m0) (c := k8c0) (by decide +kernel) rfl rfl rfl (by decide +kernel)
set_option maxRecDepth 65536 in
theorem w_c7 : (Jvm.Cond.code ({ cls := "com/example/hord/hord/command/Option", name := "toRepeatable", desc := "()Lcom/example/hord/hord/command/Option;" } : Jvm.MethodName) prog_21_method_7_code (1 : Nat) (Option.some (Jvm.ClassFile.FieldType.object "com/example/hord/hord/command/Option"))).before args0 about1 = true := code_word (m := ⟨9, 1⟩) (meth := k9m1) (c := k9c1) (by decide +kernel) rfl rfl rfl (by decide +kernel)
set_option maxRecDepth 65536 in
theorem w_c8 : (Jvm.Cond.code ({ cls := "com/example/hord/hord/command/Option", name := "defaultValue", desc := "()Ljava/lang/String;" } : Jvm.MethodName) prog_21_method_13_code (1 : Nat) (Option.some (Jvm.ClassFile.FieldType.object "java/lang/String"))).before args0 about1 = true := code_word (m := ⟨9, 4⟩) (meth := k9m4) (c := k9c4) (by decide +kernel) rfl rfl rfl (by decide +kernel)
set_option maxRecDepth 65536 in
theorem w_c9 : (Jvm.Cond.code ({ cls := "java/lang/String", name := "equals", desc := "(Ljava/lang/Object;)Z" } : Jvm.MethodName) jdk_42_method_66_code (3 : Nat) (Option.some Jvm.ClassFile.FieldType.boolean)).before args0 about1 = true := code_word (m := ⟨7, 2⟩) (meth := k7m2) (c := k7c2) (by decide +kernel) rfl rfl rfl (by decide +kernel)
set_option maxRecDepth 65536 in
theorem w_c10 : (Jvm.Cond.code ({ cls := "com/example/hord/hord/command/Option", name := "name", desc := "()Ljava/lang/String;" } : Jvm.MethodName) prog_21_method_11_code (1 : Nat) (Option.some (Jvm.ClassFile.FieldType.object "java/lang/String"))).before args0 about1 = true := code_word (m := ⟨9, 2⟩) (meth := k9m2) (c := k9c2) (by decide +kernel) rfl rfl rfl (by decide +kernel)
set_option maxRecDepth 65536 in
theorem w_c11 : (Jvm.Cond.code ({ cls := "com/example/hord/hord/command/Option", name := "value", desc := "()Ljava/lang/String;" } : Jvm.MethodName) prog_21_method_12_code (1 : Nat) (Option.some (Jvm.ClassFile.FieldType.object "java/lang/String"))).before args0 about1 = true := code_word (m := ⟨9, 3⟩) (meth := k9m3) (c := k9c3) (by decide +kernel) rfl rfl rfl (by decide +kernel)
set_option maxRecDepth 65536 in
theorem w_c12 : (Jvm.Cond.code ({ cls := "com/example/hord/hord/command/Option", name := "required", desc := "()Z" } : Jvm.MethodName) prog_21_method_14_code (1 : Nat) (Option.some Jvm.ClassFile.FieldType.boolean)).before args0 about1 = true := code_word (m := ⟨9, 5⟩) (meth := k9m5) (c := k9c5) (by decide +kernel) rfl rfl rfl (by decide +kernel)
set_option maxRecDepth 65536 in
theorem w_c13 : (Jvm.Cond.code ({ cls := "com/example/hord/hord/command/Option", name := "repeatable", desc := "()Z" } : Jvm.MethodName) prog_21_method_15_code (1 : Nat) (Option.some Jvm.ClassFile.FieldType.boolean)).before args0 about1 = true := code_word (m := ⟨9, 6⟩) (meth := k9m6) (c := k9c6) (by decide +kernel) rfl rfl rfl (by decide +kernel)
set_option maxRecDepth 65536 in
theorem w_c14 : (Jvm.Cond.code ({ cls := "com/example/hord/hord/command/Option", name := "description", desc := "()Ljava/lang/String;" } : Jvm.MethodName) prog_21_method_16_code (1 : Nat) (Option.some (Jvm.ClassFile.FieldType.object "java/lang/String"))).before args0 about1 = true := code_word (m := ⟨9, 7⟩) (meth := k9m7) (c := k9c7) (by decide +kernel) rfl rfl rfl (by decide +kernel)
set_option maxRecDepth 65536 in
theorem w_c15 : (Jvm.Cond.code ({ cls := "java/lang/StringUTF16", name := "compress", desc := "([CII)[B" } : Jvm.MethodName) jdk_52_method_16_code (6 : Nat) (Option.some (Jvm.ClassFile.FieldType.array Jvm.ClassFile.FieldType.byte))).before args0 about1 = true := code_word (m := ⟨10, 2⟩) (meth := k10m2) (c := k10c2) (by decide +kernel) rfl rfl rfl (by decide +kernel)
set_option maxRecDepth 65536 in
theorem w_c16 : (Jvm.Cond.code ({ cls := "java/lang/StringUTF16", name := "compress", desc := "([CI[BII)I" } : Jvm.MethodName) jdk_52_method_21_code (7 : Nat) (Option.some Jvm.ClassFile.FieldType.int)).before args0 about1 = true := code_word (m := ⟨10, 3⟩) (meth := k10m3) (c := k10c3) (by decide +kernel) rfl rfl rfl (by decide +kernel)
set_option maxRecDepth 65536 in
theorem w_c17 : (Jvm.Cond.code ({ cls := "java/lang/StringUTF16", name := "coderFromArrayLen", desc := "([BI)B" } : Jvm.MethodName) jdk_52_method_15_code (2 : Nat) (Option.some Jvm.ClassFile.FieldType.byte)).before args0 about1 = true := code_word (m := ⟨10, 1⟩) (meth := k10m1) (c := k10c1) (by decide +kernel) rfl rfl rfl (by decide +kernel)
def codes1 : List Jvm.Cond := [Jvm.Cond.code x code maxLocals ret, Jvm.Cond.code ({ cls := "com/example/hord/hord/command/OptionToRepeatablePinLaw", name := "str", desc := "(I)Ljava/lang/String;" } : Jvm.MethodName) method_2_code (5 : Nat) (Option.some (Jvm.ClassFile.FieldType.object "java/lang/String")), Jvm.Cond.code ({ cls := "java/lang/String", name := "<init>", desc := "([C)V" } : Jvm.MethodName) jdk_42_method_3_code (2 : Nat) (Option.none : Option Jvm.ClassFile.FieldType), Jvm.Cond.code ({ cls := "java/lang/String", name := "<init>", desc := "([CIILjava/lang/Void;)V" } : Jvm.MethodName) jdk_42_method_149_code (6 : Nat) (Option.none : Option Jvm.ClassFile.FieldType), Jvm.Cond.code ({ cls := "java/lang/Object", name := "<init>", desc := "()V" } : Jvm.MethodName) object_method_1_code (1 : Nat) (Option.none : Option Jvm.ClassFile.FieldType), Jvm.Cond.code ({ cls := "com/example/hord/hord/command/Option", name := "<init>", desc := "(Ljava/lang/String;Ljava/lang/String;Ljava/lang/String;ZZLjava/lang/String;)V" } : Jvm.MethodName) prog_21_method_1_code (7 : Nat) (Option.none : Option Jvm.ClassFile.FieldType), Jvm.Cond.code ({ cls := "java/lang/Record", name := "<init>", desc := "()V" } : Jvm.MethodName) jdk_30_method_1_code (1 : Nat) (Option.none : Option Jvm.ClassFile.FieldType), Jvm.Cond.code ({ cls := "com/example/hord/hord/command/Option", name := "toRepeatable", desc := "()Lcom/example/hord/hord/command/Option;" } : Jvm.MethodName) prog_21_method_7_code (1 : Nat) (Option.some (Jvm.ClassFile.FieldType.object "com/example/hord/hord/command/Option")), Jvm.Cond.code ({ cls := "com/example/hord/hord/command/Option", name := "defaultValue", desc := "()Ljava/lang/String;" } : Jvm.MethodName) prog_21_method_13_code (1 : Nat) (Option.some (Jvm.ClassFile.FieldType.object "java/lang/String")), Jvm.Cond.code ({ cls := "java/lang/String", name := "equals", desc := "(Ljava/lang/Object;)Z" } : Jvm.MethodName) jdk_42_method_66_code (3 : Nat) (Option.some Jvm.ClassFile.FieldType.boolean), Jvm.Cond.code ({ cls := "com/example/hord/hord/command/Option", name := "name", desc := "()Ljava/lang/String;" } : Jvm.MethodName) prog_21_method_11_code (1 : Nat) (Option.some (Jvm.ClassFile.FieldType.object "java/lang/String")), Jvm.Cond.code ({ cls := "com/example/hord/hord/command/Option", name := "value", desc := "()Ljava/lang/String;" } : Jvm.MethodName) prog_21_method_12_code (1 : Nat) (Option.some (Jvm.ClassFile.FieldType.object "java/lang/String")), Jvm.Cond.code ({ cls := "com/example/hord/hord/command/Option", name := "required", desc := "()Z" } : Jvm.MethodName) prog_21_method_14_code (1 : Nat) (Option.some Jvm.ClassFile.FieldType.boolean), Jvm.Cond.code ({ cls := "com/example/hord/hord/command/Option", name := "repeatable", desc := "()Z" } : Jvm.MethodName) prog_21_method_15_code (1 : Nat) (Option.some Jvm.ClassFile.FieldType.boolean), Jvm.Cond.code ({ cls := "com/example/hord/hord/command/Option", name := "description", desc := "()Ljava/lang/String;" } : Jvm.MethodName) prog_21_method_16_code (1 : Nat) (Option.some (Jvm.ClassFile.FieldType.object "java/lang/String")), Jvm.Cond.code ({ cls := "java/lang/StringUTF16", name := "compress", desc := "([CII)[B" } : Jvm.MethodName) jdk_52_method_16_code (6 : Nat) (Option.some (Jvm.ClassFile.FieldType.array Jvm.ClassFile.FieldType.byte)), Jvm.Cond.code ({ cls := "java/lang/StringUTF16", name := "compress", desc := "([CI[BII)I" } : Jvm.MethodName) jdk_52_method_21_code (7 : Nat) (Option.some Jvm.ClassFile.FieldType.int), Jvm.Cond.code ({ cls := "java/lang/StringUTF16", name := "coderFromArrayLen", desc := "([BI)B" } : Jvm.MethodName) jdk_52_method_15_code (2 : Nat) (Option.some Jvm.ClassFile.FieldType.byte)]
set_option maxRecDepth 65536 in
theorem codes_eq : words1.filter isCode = codes1 := rfl
theorem w_codes : ∀ c ∈ words1.filter isCode, c.before args0 about1 = true := by
  rw [codes_eq]
  intro c hc
  simp only [codes1, List.mem_cons, List.not_mem_nil, or_false] at hc
  rcases hc with rfl | rfl | rfl | rfl | rfl | rfl | rfl | rfl | rfl | rfl | rfl | rfl | rfl | rfl | rfl | rfl | rfl | rfl
  · exact w_c0
  · exact w_c1
  · exact w_c2
  · exact w_c3
  · exact w_c4
  · exact w_c5
  · exact w_c6
  · exact w_c7
  · exact w_c8
  · exact w_c9
  · exact w_c10
  · exact w_c11
  · exact w_c12
  · exact w_c13
  · exact w_c14
  · exact w_c15
  · exact w_c16
  · exact w_c17
set_option maxRecDepth 65536 in
theorem w_t1 : (words1.take 24).all (fun c => isCode c || c.before args0 about1) = true := by decide +kernel
set_option maxRecDepth 65536 in
theorem w_t2 : ((words1.drop 24).take 24).all (fun c => isCode c || c.before args0 about1) = true := by decide +kernel
set_option maxRecDepth 65536 in
theorem w_t3 : (((words1.drop 24).drop 24).take 24).all (fun c => isCode c || c.before args0 about1) = true := by decide +kernel
set_option maxRecDepth 65536 in
theorem w_t4 : ((((words1.drop 24).drop 24).drop 24).take 24).all (fun c => isCode c || c.before args0 about1) = true := by decide +kernel
set_option maxRecDepth 65536 in
theorem w_t5 : ((((words1.drop 24).drop 24).drop 24).drop 24).all (fun c => isCode c || c.before args0 about1) = true := by decide +kernel
theorem w_tables : (allAtoms (Jvm.Cond.code x code maxLocals ret :: tables_1)).before args0 about1 = true := by
  rw [allAtoms_all]
  show words1.all (fun c => c.before args0 about1) = true
  refine all_split ?_ w_codes
  rw [← List.take_append_drop 24 words1, List.all_append, w_t1, ← List.take_append_drop 24 (words1.drop 24), List.all_append, w_t2, ← List.take_append_drop 24 ((words1.drop 24).drop 24), List.all_append, w_t3, ← List.take_append_drop 24 (((words1.drop 24).drop 24).drop 24), List.all_append, w_t4, w_t5]
  rfl
set_option maxRecDepth 65536 in
theorem w_rest : rest_1_c.before args0 about1 = true := by decide +kernel
set_option maxRecDepth 65536 in
theorem w_case : (Jvm.Cond.and given_1 narrow_1).before args0 about1 = true := by decide +kernel
set_option maxRecDepth 65536 in
theorem w_consts : constsHeld consts_1 about1 := Jvm.Lit.constsHeldB_iff.mp (by decide +kernel)
theorem w_applies : (headSpec (Jvm.Cond.code x code maxLocals ret :: tables_1) room_1).applies x e0.platform about1 = true :=
  (Spec.applies_iff w_frames).mpr ⟨w_running, w_runnable, w_alone, w_named, w_hears, w_ripe, w_room, w_tables⟩
theorem atStart : AtStart classFile x code maxLocals ret World_1 tables_1 room_1 Calls_1 rest_1 Pre_1 launch0 p0 e0 about1 theMethod args0 below0 :=
  ⟨lists_1, trivial, launch0.admits_env _ _ _, launch0.least_env, fairChoices_fair.cas, fairChoices_fair.clock, w_frames, w_args, w_heap, w_applies, ⟨w_consts, trivial⟩, w_rest, w_case⟩
end start1
theorem witness_1 : WitnessClaimed_1 := ⟨start1.p0, start1.e0, start1.about1, start1.theMethod, start1.args0, start1.below0, start1.atStart⟩
end Jvm.Pilot.@@N@@
