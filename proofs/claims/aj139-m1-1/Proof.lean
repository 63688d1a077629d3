import JvmDerived
import JvmDerived.Pilot.@@N@@Statement
import JvmDerived.Pilot.@@N@@Code
set_option linter.unusedVariables false
set_option linter.unusedSimpArgs false
/- laws to paste: Road.backV, Road.codOf (cut by pick.py; bodies as the Statement names them) -/
namespace Jvm.Pilot.@@N@@
namespace StrChars
open Jvm Sem ClassFile Op Lib Jvm.Stand Jvm.Free.XT Jvm.Free.ALB Jvm.Free.JM Jvm.Free
open Jvm.Lib.Cold (StaticIs)
/-- a char array whose places are chars -/
def Ch (a : Addr) (A : Cell) (U : State) : Prop := Arr .char a A U ∧ Typed .char A
theorem Ch.mv {a : Addr} {A : Cell} {U U' : State} (h : Ch a A U) (hal : U.vm.Alike U'.vm) (hh : U'.heap = U.heap) : Ch a A U' := ⟨h.1.mv hal hh, h.2⟩
theorem Ch.keep {a : Addr} {A : Cell} {U U' : State} (h : Ch a A U) (hal : U.vm.Alike U'.vm) (hk : U'.heap[a]? = some A) : Ch a A U' := ⟨h.1.keep hal hk, h.2⟩
/-- what place i of a char[]'s cell holds -/
def cv (A : Cell) (i : Nat) : Int32 := match A.slots[i]? with | some (.int x) => x | _ => 0
theorem Ch.get {a : Addr} {A : Cell} {U : State} (h : Ch a A U) {i : Nat} (hi : i < A.slots.size) : A.slots[i]? = some (.int (cv A i)) := by
  have e := Array.getElem?_eq_getElem hi
  have f := h.2 i _ e
  unfold cv; rw [e]
  generalize A.slots[i] = v at f
  cases v <;> simp [fits] at f ⊢
/-- the byte that i2b leaves of a char -/
def lo8 (x : Int32) : Int32 := x.toInt8.toInt32
theorem fits_lo8 (y : Int32) : fits .byte (.int (lo8 y)) = true := by
  have h1 := y.toInt8.le_toInt
  have h2 := y.toInt8.toInt_lt
  simp only [lo8, fits, Bool.and_eq_true, decide_eq_true_eq, Int32.le_iff_toInt_le, Int8.toInt_toInt32, show (-128 : Int32).toInt = -128 from by decide, show (127 : Int32).toInt = 127 from by decide]
  omega
/-- A' is A but that each place j of lo .. hi - 1 holds f j -/
def Laid (A A' : Cell) (lo hi : Nat) (f : Nat → Value) : Prop := A'.cls = A.cls ∧ A'.vm = A.vm ∧ A'.slots.size = A.slots.size ∧ ∀ i, A'.slots[i]? = if lo ≤ i ∧ i < hi then some (f i) else A.slots[i]?
theorem Laid.zero (A : Cell) (lo : Nat) (f : Nat → Value) : Laid A A lo (lo + 0) f := ⟨rfl, rfl, rfl, fun i => by rw [if_neg (by omega)]⟩
theorem Laid.step {A Ak : Cell} {lo k : Nat} {f : Nat → Value} {v : Value} (h : Laid A Ak lo k f) (hlo : lo ≤ k) (hk : k < Ak.slots.size) (hv : v = f k) : Laid A (Ak.setSlot k v) lo (k + 1) f := by
  refine ⟨h.1, h.2.1, by simpa [Cell.setSlot] using h.2.2.1, fun i => ?_⟩
  by_cases e : k = i
  · subst e; rw [Cell.slots_setSlot_self v hk, if_pos (by omega), hv]
  · rw [Cell.slots_setSlot_ne v e, h.2.2.2 i]
    by_cases q : lo ≤ i ∧ i < k
    · rw [if_pos q, if_pos (by omega)]
    · rw [if_neg q, if_neg (by omega)]
def U16 : String := "java/lang/StringUTF16"
namespace Cmp5
def yN : MethodName := ⟨"java/lang/StringUTF16", "compress", "([CI[BII)I"⟩
abbrev yB : ByteArray := jdk_52_method_21_code
theorem d0 : decode yB 0 = .ok (.iconst 0, 1) := by decide +kernel
theorem d1 : decode yB 1 = .ok (.istore 5, 2) := by decide +kernel
theorem d3 : decode yB 3 = .ok (.iload 5, 2) := by decide +kernel
theorem d5 : decode yB 5 = .ok (.iload 4, 2) := by decide +kernel
theorem d7 : decode yB 7 = .ok (.if_icmp (.ge) 37, 3) := by decide +kernel
theorem d10 : decode yB 10 = .ok (.aload_n 0, 1) := by decide +kernel
theorem d11 : decode yB 11 = .ok (.iload_n 1, 1) := by decide +kernel
theorem d12 : decode yB 12 = .ok (.caload, 1) := by decide +kernel
theorem d13 : decode yB 13 = .ok (.istore 6, 2) := by decide +kernel
theorem d15 : decode yB 15 = .ok (.iload 6, 2) := by decide +kernel
theorem d17 : decode yB 17 = .ok (.sipush 255, 3) := by decide +kernel
theorem d20 : decode yB 20 = .ok (.if_icmp (.le) 6, 3) := by decide +kernel
theorem d26 : decode yB 26 = .ok (.aload_n 2, 1) := by decide +kernel
theorem d27 : decode yB 27 = .ok (.iload_n 3, 1) := by decide +kernel
theorem d28 : decode yB 28 = .ok (.iload 6, 2) := by decide +kernel
theorem d30 : decode yB 30 = .ok (.i2b, 1) := by decide +kernel
theorem d31 : decode yB 31 = .ok (.bastore, 1) := by decide +kernel
theorem d32 : decode yB 32 = .ok (.iinc 1 1, 3) := by decide +kernel
theorem d35 : decode yB 35 = .ok (.iinc 3 1, 3) := by decide +kernel
theorem d38 : decode yB 38 = .ok (.iinc 5 1, 3) := by decide +kernel
theorem d41 : decode yB 41 = .ok (.goto (-38), 3) := by decide +kernel
theorem d44 : decode yB 44 = .ok (.iload 4, 2) := by decide +kernel
theorem d46 : decode yB 46 = .ok (.ireturn, 1) := by decide +kernel
def site : List Cond := []
def tab : Cond := tabOf yN yB 7 (some .int) site
def P (b : Addr) (A : Cell) (d : Addr) (B : Cell) (o q len : Nat) (args : Array Value) (s : State) : Prop := args = #[.ref b, .int (Int32.ofNat o), .ref d, .int (Int32.ofNat q), .int (Int32.ofNat len)] ∧ Ch b A s ∧ Arr .byte d B s ∧ b ≠ d ∧ o + len ≤ A.slots.size ∧ q + len ≤ B.slots.size ∧ ∀ i, i < len → ¬ 255 < cv A (o + i)
def E (b : Addr) (A : Cell) (d : Addr) (B : Cell) (o q len : Nat) (r : Option Value) (s u : State) : Prop := r = some (.int (Int32.ofNat len)) ∧ ∃ B', Put d B' s u ∧ Laid B B' q (q + len) (fun j => Value.int (lo8 (cv A (o + (j - q)))))
/-- no char of the range above 255: len; the places written hold each char's low byte -/
theorem law (l : Launch) (b : Addr) (A : Cell) (d : Addr) (B : Cell) (o q len : Nat) : Law l yN 5 5 0 0 yB 7 (some .int) site (P b A d B o q len) (E b A d B o q len) (copyLocs d q len) 0 0 := by
  refine Law.of_walk (plainFor_of_name (by decide +kernel)) (by decide +kernel) (by decide +kernel) (by decide) (fun _ _ h => by rw [h.1]; rfl) (fun _ U U' hal hh h => ⟨h.1, h.2.1.mv hal hh, h.2.2.1.mv hal hh, h.2.2.2⟩) (fun r U U' V V' h1 hal h2 h => ⟨h.1, h.2.elim fun B' q => ⟨B', q.1.mv h1 h2, q.2⟩⟩) ?_
  intro p e s m args below meth c s₁ X0 hexec hbytes hml hret hlk hnm hown hh0 W hP
  obtain ⟨rfl, hA, hB, hne, l1, l2, hp⟩ := hP
  have c1 : Steps p.tables e below (s₁.setTop (entryFrame m #[.ref b, .int (Int32.ofNat o), .ref d, .int (Int32.ofNat q), .int (Int32.ofNat len)] 7)) (s₁.setTop (mkF m 0 #[.val (.ref b), .val (.int (Int32.ofNat o)), .val (.ref d), .val (.int (Int32.ofNat q)), .val (.int (Int32.ofNat len)), .unset, .unset] [])) := entry rfl
  have hA0 := hA.1.mv X0.warmed.alike hh0
  have hB0 := hB.mv X0.warmed.alike hh0
  have a31 := hA.1.2.2.2
  have c2 : Steps p.tables e below (s₁.setTop (entryFrame m #[.ref b, .int (Int32.ofNat o), .ref d, .int (Int32.ofNat q), .int (Int32.ofNat len)] 7)) (s₁.setTop (mkF m 3 #[.val (.ref b), .val (.int (Int32.ofNat o)), .val (.ref d), .val (.int (Int32.ofNat q)), .val (.int (Int32.ofNat len)), .val (.int 0), .unset] [])) := c1.trans (by
    refine iconstV X0.here hexec rfl 0 (hb hbytes d0) (by decide) ?_
    refine XS.istore X0.here hexec rfl (hb hbytes d1) rfl rfl ?_
    exact Steps.refl _)
  have loop : ∀ (r i : Nat), i + r = len → ∀ (z : Slot), (z = .unset ∨ ∃ w, z = .val w ∧ w.category = 1) → ∀ (Tl : State) (Bk : Cell), Stand p l e { frames := 0, locals := 0, cells := 0, slots := 0 } s m #[.ref b, .int (Int32.ofNat o), .ref d, .int (Int32.ofNat q), .int (Int32.ofNat len)] below meth c Tl ([] ++ copyLocs d q i) 0 0 → Put d Bk s₁ Tl → Laid B Bk q (q + i) (fun j => Value.int (lo8 (cv A (o + (j - q))))) →
      Steps p.tables e below (s₁.setTop (entryFrame m #[.ref b, .int (Int32.ofNat o), .ref d, .int (Int32.ofNat q), .int (Int32.ofNat len)] 7)) (Tl.setTop (mkF m 3 #[.val (.ref b), .val (.int (Int32.ofNat (o + i))), .val (.ref d), .val (.int (Int32.ofNat (q + i))), .val (.int (Int32.ofNat len)), .val (.int (Int32.ofNat i)), z] [])) → ∃ (T' : State) (B' : Cell) (z' : Slot), Stand p l e { frames := 0, locals := 0, cells := 0, slots := 0 } s m #[.ref b, .int (Int32.ofNat o), .ref d, .int (Int32.ofNat q), .int (Int32.ofNat len)] below meth c T' ([] ++ copyLocs d q len) 0 0 ∧ Put d B' s₁ T' ∧ Laid B B' q (q + len) (fun j => Value.int (lo8 (cv A (o + (j - q))))) ∧
      Steps p.tables e below (s₁.setTop (entryFrame m #[.ref b, .int (Int32.ofNat o), .ref d, .int (Int32.ofNat q), .int (Int32.ofNat len)] 7)) (T'.setTop (mkF m 3 #[.val (.ref b), .val (.int (Int32.ofNat (o + len))), .val (.ref d), .val (.int (Int32.ofNat (q + len))), .val (.int (Int32.ofNat len)), .val (.int (Int32.ofNat len)), z'] [])) := by
    intro r
    induction r with
    | zero =>
      intro i hi z hz Tl Bk Xl pl fl cl
      have hil : i = len := by omega
      rw [hil] at Xl fl cl
      exact ⟨Tl, Bk, z, Xl, pl, fl, cl⟩
    | succ r ih =>
      intro i hi z hz Tl Bk Xl pl fl cl
      have all := X0.warmed.alike.symm.trans Xl.warmed.alike
      have hAl := hA0.keep all (pl.other hne hA0.1)
      have hBk := hB0.like all pl.1 fl.1 fl.2.1 fl.2.2.1
      have hlt : q + i < Bk.slots.size := by rw [fl.2.2.1]; omega
      have c3 : Steps p.tables e below (s₁.setTop (entryFrame m #[.ref b, .int (Int32.ofNat o), .ref d, .int (Int32.ofNat q), .int (Int32.ofNat len)] 7)) (Tl.setTop (mkF m 12 #[.val (.ref b), .val (.int (Int32.ofNat (o + i))), .val (.ref d), .val (.int (Int32.ofNat (q + i))), .val (.int (Int32.ofNat len)), .val (.int (Int32.ofNat i)), z] [.int (Int32.ofNat (o + i)), .ref b])) := cl.trans (by
        refine XS.iload Xl.here hexec rfl (hb hbytes d3) rfl ?_
        refine XS.iload Xl.here hexec rfl (hb hbytes d5) rfl ?_
        refine XS.icmpNo Xl.here hexec rfl (hb hbytes d7) rfl (ii_ge_f (lt32 (by omega) (by omega))) ?_
        refine XS.aloadN Xl.here hexec rfl (hb hbytes d10) rfl rfl ?_
        refine XS.iloadN Xl.here hexec rfl (hb hbytes d11) rfl ?_
        exact Steps.refl _)
      have c4 : Steps p.tables e below (s₁.setTop (entryFrame m #[.ref b, .int (Int32.ofNat o), .ref d, .int (Int32.ofNat q), .int (Int32.ofNat len)] 7)) (Tl.setTop (mkF m 13 #[.val (.ref b), .val (.int (Int32.ofNat (o + i))), .val (.ref d), .val (.int (Int32.ofNat (q + i))), .val (.int (Int32.ofNat len)), .val (.int (Int32.ofNat i)), z] [.int (cv A (o + i))])) := c3.trans (by
        refine Xl.aget hexec hAl rfl (hA.get (i := o + i) (by omega)) rfl rfl (hb hbytes d12) ?_
        exact Steps.refl _)
      have c5 : Steps p.tables e below (s₁.setTop (entryFrame m #[.ref b, .int (Int32.ofNat o), .ref d, .int (Int32.ofNat q), .int (Int32.ofNat len)] 7)) (Tl.setTop (mkF m 15 #[.val (.ref b), .val (.int (Int32.ofNat (o + i))), .val (.ref d), .val (.int (Int32.ofNat (q + i))), .val (.int (Int32.ofNat len)), .val (.int (Int32.ofNat i)), .val (.int (cv A (o + i)))] [])) := c4.trans (by
        refine XS.istoreS Xl.here hexec rfl (hb hbytes d13) rfl rfl hz ?_
        exact Steps.refl _)
      have c6 : Steps p.tables e below (s₁.setTop (entryFrame m #[.ref b, .int (Int32.ofNat o), .ref d, .int (Int32.ofNat q), .int (Int32.ofNat len)] 7)) (Tl.setTop (mkF m 31 #[.val (.ref b), .val (.int (Int32.ofNat (o + i))), .val (.ref d), .val (.int (Int32.ofNat (q + i))), .val (.int (Int32.ofNat len)), .val (.int (Int32.ofNat i)), .val (.int (cv A (o + i)))] [.int (lo8 (cv A (o + i))), .int (Int32.ofNat (q + i)), .ref d])) := c5.trans (by
        refine XS.iload Xl.here hexec rfl (hb hbytes d15) rfl ?_
        refine sipushV Xl.here hexec rfl 255 (hb hbytes d17) (by decide) ?_
        refine XS.icmpYes Xl.here hexec rfl (pc0 := 20) rfl (hb hbytes d20) rfl (ii_le_t (hp i (by omega))) (by decide) rfl ?_
        refine XS.aloadN Xl.here hexec rfl (hb hbytes d26) rfl rfl ?_
        refine XS.iloadN Xl.here hexec rfl (hb hbytes d27) rfl ?_
        refine XS.iload Xl.here hexec rfl (hb hbytes d28) rfl ?_
        refine i2b Xl.here hexec rfl (hb hbytes d30) rfl ?_
        exact Steps.refl _)
      obtain ⟨T7, X7, p7, st7⟩ := Xl.aput hexec hBk rfl hlt rfl (fits_lo8 (cv A (o + i))) (g := (mkF m 31 #[.val (.ref b), .val (.int (Int32.ofNat (o + i))), .val (.ref d), .val (.int (Int32.ofNat (q + i))), .val (.int (Int32.ofNat len)), .val (.int (Int32.ofNat i)), .val (.int (cv A (o + i)))] [.int (lo8 (cv A (o + i))), .int (Int32.ofNat (q + i)), .ref d])) rfl (rest := []) rfl (hb hbytes d31)
      have c8 : Steps p.tables e below (s₁.setTop (entryFrame m #[.ref b, .int (Int32.ofNat o), .ref d, .int (Int32.ofNat q), .int (Int32.ofNat len)] 7)) (T7.setTop (mkF m 32 #[.val (.ref b), .val (.int (Int32.ofNat (o + i))), .val (.ref d), .val (.int (Int32.ofNat (q + i))), .val (.int (Int32.ofNat len)), .val (.int (Int32.ofNat i)), .val (.int (cv A (o + i)))] [])) := c6.trans (st7 _ (Steps.refl _))
      have c9 : Steps p.tables e below (s₁.setTop (entryFrame m #[.ref b, .int (Int32.ofNat o), .ref d, .int (Int32.ofNat q), .int (Int32.ofNat len)] 7)) (T7.setTop (mkF m 3 #[.val (.ref b), .val (.int (Int32.ofNat (o + i) + 1)), .val (.ref d), .val (.int (Int32.ofNat (q + i) + 1)), .val (.int (Int32.ofNat len)), .val (.int (Int32.ofNat i + 1)), .val (.int (cv A (o + i)))] [])) := c8.trans (by
        refine iincV X7.here hexec rfl 1 (hb hbytes d32) (by decide) rfl rfl ?_
        refine iincV X7.here hexec rfl 1 (hb hbytes d35) (by decide) rfl rfl ?_
        refine iincV X7.here hexec rfl 1 (hb hbytes d38) (by decide) rfl rfl ?_
        refine XS.goto X7.here hexec rfl (pc0 := 41) rfl (hb hbytes d41) (by decide) rfl ?_
        exact Steps.refl _)
      have c10 : Steps p.tables e below (s₁.setTop (entryFrame m #[.ref b, .int (Int32.ofNat o), .ref d, .int (Int32.ofNat q), .int (Int32.ofNat len)] 7)) (T7.setTop (mkF m 3 #[.val (.ref b), .val (.int (Int32.ofNat (o + (i + 1)))), .val (.ref d), .val (.int (Int32.ofNat (q + (i + 1)))), .val (.int (Int32.ofNat len)), .val (.int (Int32.ofNat (i + 1))), .val (.int (cv A (o + i)))] [])) := by
        have := c9
        rw [succ32, succ32, succ32] at this
        exact this
      exact ih (i + 1) (by omega) _ (Or.inr ⟨_, rfl, rfl⟩) T7 _ (by rw [copyLocs_step, ← List.append_assoc]; exact X7) (pl.trans p7) (fl.step (by omega) hlt (by simp)) c10
  obtain ⟨T9, B9, z9, X9, p9, f9, g9⟩ := loop len 0 (by omega) .unset (Or.inl rfl) s₁ B (by simpa [copyLocs] using X0) ⟨hB0.1, fun _ _ => rfl, rfl⟩ (Laid.zero _ _ _) c2
  have c11 : Steps p.tables e below (s₁.setTop (entryFrame m #[.ref b, .int (Int32.ofNat o), .ref d, .int (Int32.ofNat q), .int (Int32.ofNat len)] 7)) (T9.setTop (mkF m 46 #[.val (.ref b), .val (.int (Int32.ofNat (o + len))), .val (.ref d), .val (.int (Int32.ofNat (q + len))), .val (.int (Int32.ofNat len)), .val (.int (Int32.ofNat len)), z9] [.int (Int32.ofNat len)])) := g9.trans (by
    refine XS.iload X9.here hexec rfl (hb hbytes d3) rfl ?_
    refine XS.iload X9.here hexec rfl (hb hbytes d5) rfl ?_
    refine XS.icmpYes X9.here hexec rfl (pc0 := 7) rfl (hb hbytes d7) rfl (ii_ge_t (nlt32 (by omega) (Nat.le_refl _))) (by decide) rfl ?_
    refine XS.iload X9.here hexec rfl (hb hbytes d44) rfl ?_
    exact Steps.refl _)
  exact ⟨T9, some (.int (Int32.ofNat len)), _, _, _, X9, by simp, rfl, rfl, (fun h => by cases h), ⟨rfl, B9, p9.from hh0, f9⟩, fun fs hl => c11.trans (X9.ireturnOut hexec hret rfl (Or.inl rfl) (hb hbytes d46) hl)⟩
end Cmp5
namespace Cmp3
def yN : MethodName := ⟨"java/lang/StringUTF16", "compress", "([CII)[B"⟩
abbrev yB : ByteArray := jdk_52_method_16_code
theorem d0 : decode yB 0 = .ok (.iload_n 2, 1) := by decide +kernel
theorem d1 : decode yB 1 = .ok (.newarray .byte, 2) := by decide +kernel
theorem d3 : decode yB 3 = .ok (.astore_n 3, 1) := by decide +kernel
theorem d4 : decode yB 4 = .ok (.aload_n 0, 1) := by decide +kernel
theorem d5 : decode yB 5 = .ok (.iload_n 1, 1) := by decide +kernel
theorem d6 : decode yB 6 = .ok (.aload_n 3, 1) := by decide +kernel
theorem d7 : decode yB 7 = .ok (.iconst 0, 1) := by decide +kernel
theorem d8 : decode yB 8 = .ok (.iload_n 2, 1) := by decide +kernel
theorem d9 : decode yB 9 = .ok (.invokestatic 115, 3) := by decide +kernel
theorem d12 : decode yB 12 = .ok (.istore 4, 2) := by decide +kernel
theorem d14 : decode yB 14 = .ok (.iload 4, 2) := by decide +kernel
theorem d16 : decode yB 16 = .ok (.iload_n 2, 1) := by decide +kernel
theorem d17 : decode yB 17 = .ok (.if_icmp (.eq) 40, 3) := by decide +kernel
theorem d57 : decode yB 57 = .ok (.aload_n 3, 1) := by decide +kernel
theorem d58 : decode yB 58 = .ok (.areturn, 1) := by decide +kernel
def site : List Cond := [.arrayClass .byte, Cmp5.tab] ++ staticW U16 115 Cmp5.yN
def tab : Cond := tabOf yN yB 6 (some (.array .byte)) site
def P (b : Addr) (A : Cell) (o len : Nat) (args : Array Value) (s : State) : Prop := args = #[.ref b, .int (Int32.ofNat o), .int (Int32.ofNat len)] ∧ Ch b A s ∧ o + len ≤ A.slots.size ∧ len ≤ 536870912 ∧ ∀ i, i < len → ¬ 255 < cv A (o + i)
def E (b : Addr) (A : Cell) (o len : Nat) (r : Option Value) (s u : State) : Prop := NewArr .byte "[B" len (fun j => .int (lo8 (cv A (o + j)))) r s u ∧ u.heap.size = s.heap.size + 1
/-- no char of the range above 255: a new byte[] of their low bytes -/
theorem law (l : Launch) (b : Addr) (A : Cell) (o len : Nat) : Law l yN 3 3 1 18 yB 6 (some (.array .byte)) site (P b A o len) (E b A o len) [] 1 len := by
  refine Law.of_walk (plainFor_of_name (by decide +kernel)) (by decide +kernel) (by decide +kernel) (by decide) (fun _ _ h => by rw [h.1]; rfl) (fun _ U U' hal hh h => ⟨h.1, h.2.1.mv hal hh, h.2.2⟩) (fun r U U' V V' h1 hal h2 h => ⟨NewArr.mv r U U' V V' h1 hal h2 h.1, by rw [h1, h2]; exact h.2⟩) ?_
  intro p e s m args below meth c s₁ X0 hexec hbytes hml hret hlk hnm hown hh0 W hP
  obtain ⟨rfl, hA, l1, l2, hp⟩ := hP
  have a31 := hA.1.2.2.2
  have c1 : Steps p.tables e below (s₁.setTop (entryFrame m #[.ref b, .int (Int32.ofNat o), .int (Int32.ofNat len)] 6)) (s₁.setTop (mkF m 0 #[.val (.ref b), .val (.int (Int32.ofNat o)), .val (.int (Int32.ofNat len)), .unset, .unset, .unset] [])) := entry rfl
  have c2 : Steps p.tables e below (s₁.setTop (entryFrame m #[.ref b, .int (Int32.ofNat o), .int (Int32.ofNat len)] 6)) (s₁.setTop (mkF m 1 #[.val (.ref b), .val (.int (Int32.ofNat o)), .val (.int (Int32.ofNat len)), .unset, .unset, .unset] [.int (Int32.ofNat len)])) := c1.trans (by
    refine XS.iloadN X0.here hexec rfl (hb hbytes d0) rfl ?_
    exact Steps.refl _)
  obtain ⟨T3, B3, X3, ba3, bs3, bv3, bh3, bf3, st3⟩ := X0.anew hexec (atype := .byte) (wk W (.arrayClass .byte)) rfl (by show len * 1 ≤ _; omega) (by omega) (g := (mkF m 1 #[.val (.ref b), .val (.int (Int32.ofNat o)), .val (.int (Int32.ofNat len)), .unset, .unset, .unset] [.int (Int32.ofNat len)])) rfl (hb hbytes d1) (rest := []) rfl (Nat.le_refl _) (by show 0 + len ≤ len; omega)
  rw [hh0] at ba3 st3
  have kp3 : XT.Kept s T3 := (XT.Kept.of_eq hh0).push bh3
  have hA3 := hA.keep X3.warmed.alike (kp3 _ _ hA.1.1)
  have hne : b ≠ s.heap.size := hA.1.ne
  have c4 : Steps p.tables e below (s₁.setTop (entryFrame m #[.ref b, .int (Int32.ofNat o), .int (Int32.ofNat len)] 6)) (T3.setTop (mkF m 3 #[.val (.ref b), .val (.int (Int32.ofNat o)), .val (.int (Int32.ofNat len)), .unset, .unset, .unset] [.ref s.heap.size])) := c2.trans (st3 _ (Steps.refl _))
  have c5 : Steps p.tables e below (s₁.setTop (entryFrame m #[.ref b, .int (Int32.ofNat o), .int (Int32.ofNat len)] 6)) (T3.setTop (mkF m 9 #[.val (.ref b), .val (.int (Int32.ofNat o)), .val (.int (Int32.ofNat len)), .val (.ref s.heap.size), .unset, .unset] [.int (Int32.ofNat len), .int 0, .ref s.heap.size, .int (Int32.ofNat o), .ref b])) := c4.trans (by
    refine XS.astoreN X3.here hexec rfl (hb hbytes d3) rfl rfl rfl ?_
    refine XS.aloadN X3.here hexec rfl (hb hbytes d4) rfl rfl ?_
    refine XS.iloadN X3.here hexec rfl (hb hbytes d5) rfl ?_
    refine XS.aloadN X3.here hexec rfl (hb hbytes d6) rfl rfl ?_
    refine iconstV X3.here hexec rfl 0 (hb hbytes d7) (by decide) ?_
    refine XS.iloadN X3.here hexec rfl (hb hbytes d8) rfl ?_
    exact Steps.refl _)
  obtain ⟨v6, T6, X6, E6, g6⟩ := X3.callS hexec (Cmp5.law l b A s.heap.size B3 o 0 len) hown (wks W (staticW U16 115 Cmp5.yN)) (wk W Cmp5.tab) (W := 0) (Nat.le_of_ble_eq_true rfl) (Nat.le_of_ble_eq_true rfl) (Nat.le_refl _) (by show 0 + len + 0 ≤ len; omega) (g := (mkF m 9 #[.val (.ref b), .val (.int (Int32.ofNat o)), .val (.int (Int32.ofNat len)), .val (.ref s.heap.size), .unset, .unset] [.int (Int32.ofNat len), .int (Int32.ofNat 0), .ref s.heap.size, .int (Int32.ofNat o), .ref b])) rfl (by rw [hml]; rfl) c5 (argsL := [.ref b, .int (Int32.ofNat o), .ref s.heap.size, .int (Int32.ofNat 0), .int (Int32.ofNat len)]) (rest := []) rfl rfl (by show 2 * 0 + 0 ≤ _; decide) (hb hbytes d9) (⟨rfl, hA3, ba3, hne, l1, by rw [bs3]; simp, hp⟩)
  obtain ⟨rfl, B6, p6, f6⟩ := E6
  have c7 : Steps p.tables e below (s₁.setTop (entryFrame m #[.ref b, .int (Int32.ofNat o), .int (Int32.ofNat len)] 6)) (T6.setTop (mkF m 12 #[.val (.ref b), .val (.int (Int32.ofNat o)), .val (.int (Int32.ofNat len)), .val (.ref s.heap.size), .unset, .unset] [.int (Int32.ofNat len)])) := g6
  have c8 : Steps p.tables e below (s₁.setTop (entryFrame m #[.ref b, .int (Int32.ofNat o), .int (Int32.ofNat len)] 6)) (T6.setTop (mkF m 58 #[.val (.ref b), .val (.int (Int32.ofNat o)), .val (.int (Int32.ofNat len)), .val (.ref s.heap.size), .val (.int (Int32.ofNat len)), .unset] [.ref s.heap.size])) := c7.trans (by
    refine XS.istore X6.here hexec rfl (hb hbytes d12) rfl rfl ?_
    refine XS.iload X6.here hexec rfl (hb hbytes d14) rfl ?_
    refine XS.iloadN X6.here hexec rfl (hb hbytes d16) rfl ?_
    refine XS.icmpYes X6.here hexec rfl (pc0 := 17) rfl (hb hbytes d17) rfl (ii_eq_t rfl) (by decide) rfl ?_
    refine XS.aloadN X6.here hexec rfl (hb hbytes d57) rfl rfl ?_
    exact Steps.refl _)
  have X8 := X6.wide (L' := []) (cells' := 1) (slots' := len) (fun x hx hlt => by
    simp only [List.nil_append, copyLocs, List.mem_map, List.mem_range] at hx
    obtain ⟨i, -, rfl⟩ := hx
    exact absurd hlt (Nat.lt_irrefl _)) (Nat.le_refl _) (by omega)
  exact ⟨T6, some (.ref s.heap.size), _, _, _, X8, rfl, rfl, rfl, (fun h => by cases h), ⟨⟨rfl, B6, ba3.like (X3.warmed.alike.symm.trans X6.warmed.alike) p6.1 f6.1 f6.2.1 f6.2.2.1, f6.2.1.trans bv3, by rw [X6.warmed.alike.findClass, f6.1]; exact bf3, by rw [f6.2.2.1, bs3]; simp, fun j hj => by rw [f6.2.2.2 j, if_pos (by omega)]; rfl, kp3.put p6 (Nat.le_refl _)⟩, by rw [p6.2.2, bh3, hh0]; simp⟩, fun fs hl => c8.trans (X8.areturnOut hexec rfl hret rfl (hb hbytes d58) hl)⟩
end Cmp3
namespace CodL
def yN : MethodName := ⟨"java/lang/StringUTF16", "coderFromArrayLen", "([BI)B"⟩
abbrev yB : ByteArray := jdk_52_method_15_code
theorem d0 : decode yB 0 = .ok (.iload_n 1, 1) := by decide +kernel
theorem d1 : decode yB 1 = .ok (.aload_n 0, 1) := by decide +kernel
theorem d2 : decode yB 2 = .ok (.arraylength, 1) := by decide +kernel
theorem d3 : decode yB 3 = .ok (.isub, 1) := by decide +kernel
theorem d4 : decode yB 4 = .ok (.bipush 31, 2) := by decide +kernel
theorem d6 : decode yB 6 = .ok (.iushr, 1) := by decide +kernel
theorem d7 : decode yB 7 = .ok (.i2b, 1) := by decide +kernel
theorem d8 : decode yB 8 = .ok (.ireturn, 1) := by decide +kernel
def site : List Cond := []
def tab : Cond := tabOf yN yB 2 (some .byte) site
def P (d : Addr) (B : Cell) (args : Array Value) (s : State) : Prop := args = #[.ref d, .int (Int32.ofNat B.slots.size)] ∧ Arr .byte d B s
def E (r : Option Value) (s u : State) : Prop := XT.PureE (some (.int 0)) r s u
/-- an array as long as the number of chars: LATIN1 -/
theorem law (l : Launch) (d : Addr) (B : Cell) : Law l yN 2 2 0 0 yB 2 (some .byte) site (P d B) E [] 0 0 := by
  refine Law.of_walk (plainFor_of_name (by decide +kernel)) (by decide +kernel) (by decide +kernel) (by decide) (fun _ _ h => by rw [h.1]; rfl) (fun _ U U' hal hh h => ⟨h.1, h.2.mv hal hh⟩) (fun r U U' V V' h1 hal h2 h => XT.PureE.mv r U U' V V' h1 hal h2 h) ?_
  intro p e s m args below meth c s₁ X0 hexec hbytes hml hret hlk hnm hown hh0 W hP
  obtain ⟨rfl, hB⟩ := hP
  have hB0 := hB.mv X0.warmed.alike hh0
  have c1 : Steps p.tables e below (s₁.setTop (entryFrame m #[.ref d, .int (Int32.ofNat B.slots.size)] 2)) (s₁.setTop (mkF m 0 #[.val (.ref d), .val (.int (Int32.ofNat B.slots.size))] [])) := entry rfl
  have c2 : Steps p.tables e below (s₁.setTop (entryFrame m #[.ref d, .int (Int32.ofNat B.slots.size)] 2)) (s₁.setTop (mkF m 2 #[.val (.ref d), .val (.int (Int32.ofNat B.slots.size))] [.ref d, .int (Int32.ofNat B.slots.size)])) := c1.trans (by
    refine XS.iloadN X0.here hexec rfl (hb hbytes d0) rfl ?_
    refine XS.aloadN X0.here hexec rfl (hb hbytes d1) rfl rfl ?_
    exact Steps.refl _)
  have c3 : Steps p.tables e below (s₁.setTop (entryFrame m #[.ref d, .int (Int32.ofNat B.slots.size)] 2)) (s₁.setTop (mkF m 8 #[.val (.ref d), .val (.int (Int32.ofNat B.slots.size))] [.int (lo8 (ushr (Int32.ofNat B.slots.size - Int32.ofNat B.slots.size) 31))])) := c2.trans (by
    refine X0.alen hexec hB0 rfl rfl (hb hbytes d2) ?_
    refine XS.isub X0.here hexec rfl (hb hbytes d3) rfl ?_
    refine bipushV X0.here hexec rfl 31 (hb hbytes d4) (by decide) ?_
    refine iushr X0.here hexec rfl (hb hbytes d6) rfl ?_
    refine i2b X0.here hexec rfl (hb hbytes d7) rfl ?_
    exact Steps.refl _)
  have e0 : lo8 (ushr (Int32.ofNat B.slots.size - Int32.ofNat B.slots.size) 31) = 0 := by rw [Int32.sub_self]; decide
  rw [e0] at c3
  exact ⟨s₁, some (.int 0), _, _, _, X0, rfl, rfl, rfl, (fun h => by cases h), ⟨rfl, hh0⟩, fun fs hl => c3.trans (X0.ireturnOut hexec hret rfl (Or.inr (Or.inr (Or.inl rfl))) (hb hbytes d8) hl)⟩
end CodL
/-- the String at a is Latin-1 over a new byte[] (the heap's one new cell): the low bytes of the len chars of A from o on; every cell but a is kept -/
def Got (a : Addr) (D : Cell) (fV fC : Field) (A : Cell) (o len : Nat) (r : Option Value) (s u : State) : Prop := r = none ∧ ∃ D' V : Cell, Blank "java/lang/String" a D' u ∧ Same D D' [fV.slot, fC.slot] ∧ D'.slots[fV.slot]? = some (.ref s.heap.size) ∧ D'.slots[fC.slot]? = some (.int 0) ∧ Arr .byte s.heap.size V u ∧ V.vm = .none ∧ u.vm.findClass "[B" = some V.cls ∧ V.slots.size = len ∧ (∀ j, j < len → V.slots[j]? = some (.int (lo8 (cv A (o + j))))) ∧ (∀ (y : Addr) (c : Cell), y ≠ a → s.heap[y]? = some c → u.heap[y]? = some c) ∧ u.heap.size = s.heap.size + 1
theorem Got.mv {a : Addr} {D A : Cell} {fV fC : Field} {o len : Nat} : ∀ r (U U' V V' : State), U'.heap = U.heap → V.vm.Alike V'.vm → V'.heap = V.heap → Got a D fV fC A o len r U V → Got a D fV fC A o len r U' V' :=
  fun r U U' V V' h1 hal h2 ⟨e0, D', X, a1, a2, a3, a4, a5, a6, a7, a8, a9, a10, a11⟩ => ⟨e0, D', X, a1.mv hal h2, a2, by rw [h1]; exact a3, a4, by rw [h1]; exact a5.mv hal h2, a6, by rw [hal.findClass]; exact a7, a8, a9, by rw [h1, h2]; exact a10, by rw [h1, h2]; exact a11⟩
namespace New4
def yN : MethodName := ⟨"java/lang/String", "<init>", "([CIILjava/lang/Void;)V"⟩
abbrev yB : ByteArray := jdk_42_method_149_code
theorem d0 : decode yB 0 = .ok (.aload_n 0, 1) := by decide +kernel
theorem d1 : decode yB 1 = .ok (.invokespecial 1, 3) := by decide +kernel
theorem d4 : decode yB 4 = .ok (.iload_n 3, 1) := by decide +kernel
theorem d5 : decode yB 5 = .ok (.ifCond (.ne) 22, 3) := by decide +kernel
theorem d27 : decode yB 27 = .ok (.getstatic 38, 3) := by decide +kernel
theorem d30 : decode yB 30 = .ok (.ifCond (.eq) 28, 3) := by decide +kernel
theorem d33 : decode yB 33 = .ok (.aload_n 1, 1) := by decide +kernel
theorem d34 : decode yB 34 = .ok (.iload_n 2, 1) := by decide +kernel
theorem d35 : decode yB 35 = .ok (.iload_n 3, 1) := by decide +kernel
theorem d36 : decode yB 36 = .ok (.invokestatic 177, 3) := by decide +kernel
theorem d39 : decode yB 39 = .ok (.astore 5, 2) := by decide +kernel
theorem d41 : decode yB 41 = .ok (.aload_n 0, 1) := by decide +kernel
theorem d42 : decode yB 42 = .ok (.aload 5, 2) := by decide +kernel
theorem d44 : decode yB 44 = .ok (.iload_n 3, 1) := by decide +kernel
theorem d45 : decode yB 45 = .ok (.invokestatic 47, 3) := by decide +kernel
theorem d48 : decode yB 48 = .ok (.putfield 15, 3) := by decide +kernel
theorem d51 : decode yB 51 = .ok (.aload_n 0, 1) := by decide +kernel
theorem d52 : decode yB 52 = .ok (.aload 5, 2) := by decide +kernel
theorem d54 : decode yB 54 = .ok (.putfield 9, 3) := by decide +kernel
theorem d57 : decode yB 57 = .ok (.return_, 1) := by decide +kernel
def site : List Cond := [.fieldLink "java/lang/String" 38 "java/lang/String" "COMPACT_STRINGS" "Z", Cmp3.tab, CodL.tab, .laysFinal "java/lang/String" "java/lang/String" "value" "[B", .fieldLink "java/lang/String" 9 "java/lang/String" "value" "[B", .laysFinal "java/lang/String" "java/lang/String" "coder" "B", .fieldLink "java/lang/String" 15 "java/lang/String" "coder" "B"] ++ objW "java/lang/String" 1 ++ staticW "java/lang/String" 177 Cmp3.yN ++ staticW "java/lang/String" 47 CodL.yN
def tab : Cond := tabOf yN yB 6 none site
def P (a : Addr) (D : Cell) (fV fC : Field) (b : Addr) (A : Cell) (z : Int32) (o len : Nat) (args : Array Value) (s : State) : Prop := args = #[.ref a, .ref b, .int (Int32.ofNat o), .int (Int32.ofNat len), .null] ∧ Blank "java/lang/String" a D s ∧ Found "java/lang/String" "value" "[B" fV s ∧ Found "java/lang/String" "coder" "B" fC s ∧ Ch b A s ∧ StaticIs s "java/lang/String" "COMPACT_STRINGS" "Z" (.int z) ∧ ¬ z = 0 ∧ 0 < len ∧ o + len ≤ A.slots.size ∧ len ≤ 536870912 ∧ ∀ i, i < len → ¬ 255 < cv A (o + i)
def E (a : Addr) (D : Cell) (fV fC : Field) (A : Cell) (o len : Nat) (r : Option Value) (s u : State) : Prop := Got a D fV fC A o len r s u
/-- len > 0, no char of the range above 255: a Latin-1 String of their low bytes -/
theorem law (l : Launch) (a : Addr) (D : Cell) (fV fC : Field) (b : Addr) (A : Cell) (z : Int32) (o len : Nat) : Law l yN 5 4 2 35 yB 6 none site (P a D fV fC b A z o len) (E a D fV fC A o len) [⟨a, fC.slot⟩, ⟨a, fV.slot⟩] 1 len := by
  refine Law.of_walk (plainFor_of_name (by decide +kernel)) (by decide +kernel) (by decide +kernel) (by decide) (fun _ _ h => by rw [h.1]; rfl) (fun _ U U' hal hh h => ⟨h.1, h.2.1.mv hal hh, h.2.2.1.al hal, h.2.2.2.1.al hal, h.2.2.2.2.1.mv hal hh, h.2.2.2.2.2.1.there hal hh, h.2.2.2.2.2.2⟩) (fun r U U' V V' h1 hal h2 h => Got.mv r U U' V V' h1 hal h2 h) ?_
  intro p e s m args below meth c s₁ X0 hexec hbytes hml hret hlk hnm hown hh0 W hP
  obtain ⟨rfl, hB, f1, f2, hA, s1, hz, l0, l1, l2, hp⟩ := hP
  have a31 := hA.1.2.2.2
  have c1 : Steps p.tables e below (s₁.setTop (entryFrame m #[.ref a, .ref b, .int (Int32.ofNat o), .int (Int32.ofNat len), .null] 6)) (s₁.setTop (mkF m 0 #[.val (.ref a), .val (.ref b), .val (.int (Int32.ofNat o)), .val (.int (Int32.ofNat len)), .val .null, .unset] [])) := entry rfl
  have c2 : Steps p.tables e below (s₁.setTop (entryFrame m #[.ref a, .ref b, .int (Int32.ofNat o), .int (Int32.ofNat len), .null] 6)) (s₁.setTop (mkF m 1 #[.val (.ref a), .val (.ref b), .val (.int (Int32.ofNat o)), .val (.int (Int32.ofNat len)), .val .null, .unset] [.ref a])) := c1.trans (by
    refine XS.aloadN X0.here hexec rfl (hb hbytes d0) rfl rfl ?_
    exact Steps.refl _)
  obtain ⟨T3, X3, q3, st3⟩ := X0.oinit hexec hown (wks W (objW "java/lang/String" 1)) (g := (mkF m 1 #[.val (.ref a), .val (.ref b), .val (.int (Int32.ofNat o)), .val (.int (Int32.ofNat len)), .val .null, .unset] [.ref a])) rfl (by rw [hml]; rfl) (rest := []) rfl (hb hbytes d1) (W := 0) (by show 2 * 0 + 0 ≤ _; decide) (Nat.le_of_ble_eq_true rfl) (Nat.le_of_ble_eq_true rfl)
  have hh3 := q3.trans hh0
  have c4 : Steps p.tables e below (s₁.setTop (entryFrame m #[.ref a, .ref b, .int (Int32.ofNat o), .int (Int32.ofNat len), .null] 6)) (T3.setTop (mkF m 27 #[.val (.ref a), .val (.ref b), .val (.int (Int32.ofNat o)), .val (.int (Int32.ofNat len)), .val .null, .unset] [])) := (c2.trans (st3 _ (Steps.refl _))).trans (by
    refine XS.iloadN X3.here hexec rfl (hb hbytes d4) rfl ?_
    refine XS.ifYes X3.here hexec rfl (pc0 := 5) rfl (hb hbytes d5) rfl (i0_ne_t (nz32 (by omega) l0)) (by decide) rfl ?_
    exact Steps.refl _)
  obtain ⟨T5, X5, q5, st5⟩ := X3.sget hexec hown (wk W (.fieldLink "java/lang/String" 38 "java/lang/String" "COMPACT_STRINGS" "Z")) s1 (fun _ _ h => by rw [hh3]; exact h) (g := (mkF m 27 #[.val (.ref a), .val (.ref b), .val (.int (Int32.ofNat o)), .val (.int (Int32.ofNat len)), .val .null, .unset] [])) rfl (hb hbytes d27)
  have hh5 := q5.trans hh3
  have c6 : Steps p.tables e below (s₁.setTop (entryFrame m #[.ref a, .ref b, .int (Int32.ofNat o), .int (Int32.ofNat len), .null] 6)) (T5.setTop (mkF m 30 #[.val (.ref a), .val (.ref b), .val (.int (Int32.ofNat o)), .val (.int (Int32.ofNat len)), .val .null, .unset] [.int z])) := c4.trans (st5 _ (Steps.refl _))
  have c7 : Steps p.tables e below (s₁.setTop (entryFrame m #[.ref a, .ref b, .int (Int32.ofNat o), .int (Int32.ofNat len), .null] 6)) (T5.setTop (mkF m 36 #[.val (.ref a), .val (.ref b), .val (.int (Int32.ofNat o)), .val (.int (Int32.ofNat len)), .val .null, .unset] [.int (Int32.ofNat len), .int (Int32.ofNat o), .ref b])) := c6.trans (by
    refine XS.ifNo X5.here hexec rfl (hb hbytes d30) rfl (i0_eq_f hz) ?_
    refine XS.aloadN X5.here hexec rfl (hb hbytes d33) rfl rfl ?_
    refine XS.iloadN X5.here hexec rfl (hb hbytes d34) rfl ?_
    refine XS.iloadN X5.here hexec rfl (hb hbytes d35) rfl ?_
    exact Steps.refl _)
  obtain ⟨v8, T8, X8, E8, g8⟩ := X5.callS hexec (Cmp3.law l b A o len) hown (wks W (staticW "java/lang/String" 177 Cmp3.yN)) (wk W Cmp3.tab) (W := 0) (Nat.le_of_ble_eq_true rfl) (Nat.le_of_ble_eq_true rfl) (Nat.le_refl _) (by show 0 + len ≤ len; omega) (g := (mkF m 36 #[.val (.ref a), .val (.ref b), .val (.int (Int32.ofNat o)), .val (.int (Int32.ofNat len)), .val .null, .unset] [.int (Int32.ofNat len), .int (Int32.ofNat o), .ref b])) rfl (by rw [hml]; rfl) c7 (argsL := [.ref b, .int (Int32.ofNat o), .int (Int32.ofNat len)]) (rest := []) rfl rfl (by show 2 * 0 + 0 ≤ _; decide) (hb hbytes d36) (⟨rfl, hA.mv X5.warmed.alike hh5, l1, l2, hp⟩)
  obtain ⟨e8, z8⟩ := E8
  obtain ⟨rfl, N, n1, n2, n3, n4, n5, n6⟩ := NewArr.mv _ T5 s _ _ hh5.symm (Vm.Alike.refl _) rfl e8
  rw [hh5] at z8
  have hB1 := hB.keep X8.warmed.alike (n6 _ _ hB.1)
  have hne : s.heap.size ≠ a := (Nat.ne_of_lt (Array.getElem?_eq_some_iff.mp hB.1).1).symm
  have c9 : Steps p.tables e below (s₁.setTop (entryFrame m #[.ref a, .ref b, .int (Int32.ofNat o), .int (Int32.ofNat len), .null] 6)) (T8.setTop (mkF m 39 #[.val (.ref a), .val (.ref b), .val (.int (Int32.ofNat o)), .val (.int (Int32.ofNat len)), .val .null, .unset] [.ref s.heap.size])) := g8
  have c10 : Steps p.tables e below (s₁.setTop (entryFrame m #[.ref a, .ref b, .int (Int32.ofNat o), .int (Int32.ofNat len), .null] 6)) (T8.setTop (mkF m 45 #[.val (.ref a), .val (.ref b), .val (.int (Int32.ofNat o)), .val (.int (Int32.ofNat len)), .val .null, .val (.ref s.heap.size)] [.int (Int32.ofNat N.slots.size), .ref s.heap.size, .ref a])) := by
    have hc : Steps p.tables e below (s₁.setTop (entryFrame m #[.ref a, .ref b, .int (Int32.ofNat o), .int (Int32.ofNat len), .null] 6)) (T8.setTop (mkF m 45 #[.val (.ref a), .val (.ref b), .val (.int (Int32.ofNat o)), .val (.int (Int32.ofNat len)), .val .null, .val (.ref s.heap.size)] [.int (Int32.ofNat len), .ref s.heap.size, .ref a])) := c9.trans (by
      refine XS.astore X8.here hexec rfl (hb hbytes d39) rfl rfl rfl ?_
      refine XS.aloadN X8.here hexec rfl (hb hbytes d41) rfl rfl ?_
      refine XS.aload X8.here hexec rfl (hb hbytes d42) rfl rfl ?_
      refine XS.iloadN X8.here hexec rfl (hb hbytes d44) rfl ?_
      exact Steps.refl _)
    rw [n4]; exact hc
  obtain ⟨v11, T11, X11, E11, g11⟩ := X8.callS hexec (CodL.law l s.heap.size N) hown (wks W (staticW "java/lang/String" 47 CodL.yN)) (wk W CodL.tab) (W := 1) (Nat.le_of_ble_eq_true rfl) (Nat.le_of_ble_eq_true rfl) (Nat.le_refl _) (by show 0 + len + 0 ≤ len; omega) (g := (mkF m 45 #[.val (.ref a), .val (.ref b), .val (.int (Int32.ofNat o)), .val (.int (Int32.ofNat len)), .val .null, .val (.ref s.heap.size)] [.int (Int32.ofNat N.slots.size), .ref s.heap.size, .ref a])) rfl (by rw [hml]; rfl) c10 (argsL := [.ref s.heap.size, .int (Int32.ofNat N.slots.size)]) (rest := [.ref a]) rfl rfl (by show 2 * 0 + (1 + 0) ≤ _; decide) (hb hbytes d45) (⟨rfl, n1⟩)
  obtain ⟨rfl, q11⟩ := E11
  have hB11 := hB1.mv (X8.warmed.alike.symm.trans X11.warmed.alike) q11
  have c12 : Steps p.tables e below (s₁.setTop (entryFrame m #[.ref a, .ref b, .int (Int32.ofNat o), .int (Int32.ofNat len), .null] 6)) (T11.setTop (mkF m 48 #[.val (.ref a), .val (.ref b), .val (.int (Int32.ofNat o)), .val (.int (Int32.ofNat len)), .val .null, .val (.ref s.heap.size)] [.int 0, .ref a])) := g11
  obtain ⟨T13, X13, p13, bl13, sl13, st13⟩ := X11.finit hexec hown (wk W (.fieldLink "java/lang/String" 15 "java/lang/String" "coder" "B")) (Or.inr ⟨_, (wk W (.laysFinal "java/lang/String" "java/lang/String" "coder" "B"))⟩) (Or.inl ⟨rfl, hnm⟩) f2 (Or.inl rfl) hB11 (t := .byte) (by decide +kernel) rfl (g := (mkF m 48 #[.val (.ref a), .val (.ref b), .val (.int (Int32.ofNat o)), .val (.int (Int32.ofNat len)), .val .null, .val (.ref s.heap.size)] [.int 0, .ref a])) rfl (rest := []) rfl (hb hbytes d48)
  have c14 : Steps p.tables e below (s₁.setTop (entryFrame m #[.ref a, .ref b, .int (Int32.ofNat o), .int (Int32.ofNat len), .null] 6)) (T13.setTop (mkF m 54 #[.val (.ref a), .val (.ref b), .val (.int (Int32.ofNat o)), .val (.int (Int32.ofNat len)), .val .null, .val (.ref s.heap.size)] [.ref s.heap.size, .ref a])) := (c12.trans (st13 _ (Steps.refl _))).trans (by
    refine XS.aloadN X13.here hexec rfl (hb hbytes d51) rfl rfl ?_
    refine XS.aload X13.here hexec rfl (hb hbytes d52) rfl rfl ?_
    exact Steps.refl _)
  obtain ⟨T15, X15, p15, bl15, sl15, st15⟩ := X13.finit hexec hown (wk W (.fieldLink "java/lang/String" 9 "java/lang/String" "value" "[B")) (Or.inr ⟨_, (wk W (.laysFinal "java/lang/String" "java/lang/String" "value" "[B"))⟩) (Or.inl ⟨rfl, hnm⟩) f1 (Or.inl rfl) bl13 (t := (.array .byte)) (by decide +kernel) rfl (g := (mkF m 54 #[.val (.ref a), .val (.ref b), .val (.int (Int32.ofNat o)), .val (.int (Int32.ofNat len)), .val .null, .val (.ref s.heap.size)] [.ref s.heap.size, .ref a])) rfl (rest := []) rfl (hb hbytes d54)
  have c16 : Steps p.tables e below (s₁.setTop (entryFrame m #[.ref a, .ref b, .int (Int32.ofNat o), .int (Int32.ofNat len), .null] 6)) (T15.setTop (mkF m 57 #[.val (.ref a), .val (.ref b), .val (.int (Int32.ofNat o)), .val (.int (Int32.ofNat len)), .val .null, .val (.ref s.heap.size)] [])) := c14.trans (st15 _ (Steps.refl _))
  have ap := apart (Or.inr ⟨_, (wk W (.laysFinal "java/lang/String" "java/lang/String" "value" "[B"))⟩) (Or.inr ⟨_, (wk W (.laysFinal "java/lang/String" "java/lang/String" "coder" "B"))⟩) f1 f2 (t₁ := .array .byte) (t₂ := .byte) (by decide +kernel) (by decide +kernel) (by decide)
  have al := X8.warmed.alike.symm.trans X15.warmed.alike
  have n7 : T11.heap[s.heap.size]? = some N := by rw [q11]; exact n1.1
  exact ⟨T15, none, _, _, _, X15, by simp, rfl, by omega, (fun _ => rfl), ⟨rfl, _, N, bl15, ((Same.refl D _).set _ (by simp)).set _ (by simp), sl15, (Cell.slots_setSlot_ne _ ap).trans sl13, n1.keep al (p15.other hne (p13.other hne n7)), n2, by rw [al.findClass]; exact n3, n4, n5, fun y c h1 h2 => p15.other h1 (p13.other h1 (by rw [q11]; exact n6 y c h2)), by rw [p15.2.2, p13.2.2, q11]; exact z8⟩, fun fs hl => c16.trans (X15.returnOut hexec hret (hb hbytes d57) hl)⟩
end New4
namespace New1
def yN : MethodName := ⟨"java/lang/String", "<init>", "([C)V"⟩
abbrev yB : ByteArray := jdk_42_method_3_code
theorem d0 : decode yB 0 = .ok (.aload_n 0, 1) := by decide +kernel
theorem d1 : decode yB 1 = .ok (.aload_n 1, 1) := by decide +kernel
theorem d2 : decode yB 2 = .ok (.iconst 0, 1) := by decide +kernel
theorem d3 : decode yB 3 = .ok (.aload_n 1, 1) := by decide +kernel
theorem d4 : decode yB 4 = .ok (.arraylength, 1) := by decide +kernel
theorem d5 : decode yB 5 = .ok (.aconst_null, 1) := by decide +kernel
theorem d6 : decode yB 6 = .ok (.invokespecial 27, 3) := by decide +kernel
theorem d9 : decode yB 9 = .ok (.return_, 1) := by decide +kernel
def site : List Cond := [New4.tab] ++ initW "java/lang/String" 27 New4.yN
def tab : Cond := tabOf yN yB 2 none site
def P (a : Addr) (D : Cell) (fV fC : Field) (b : Addr) (A : Cell) (z : Int32) (args : Array Value) (s : State) : Prop := args = #[.ref a, .ref b] ∧ Blank "java/lang/String" a D s ∧ Found "java/lang/String" "value" "[B" fV s ∧ Found "java/lang/String" "coder" "B" fC s ∧ Ch b A s ∧ StaticIs s "java/lang/String" "COMPACT_STRINGS" "Z" (.int z) ∧ ¬ z = 0 ∧ 0 < A.slots.size ∧ A.slots.size ≤ 536870912 ∧ ∀ i, i < A.slots.size → ¬ 255 < cv A i
def E (a : Addr) (D : Cell) (fV fC : Field) (A : Cell) (r : Option Value) (s u : State) : Prop := Got a D fV fC A 0 A.slots.size r s u
/-- new String(chars), not empty, no char above 255: a Latin-1 String of their low bytes -/
theorem law (l : Launch) (a : Addr) (D : Cell) (fV fC : Field) (b : Addr) (A : Cell) (z : Int32) : Law l yN 2 1 3 52 yB 2 none site (P a D fV fC b A z) (E a D fV fC A) [⟨a, fC.slot⟩, ⟨a, fV.slot⟩] 1 A.slots.size := by
  refine Law.of_walk (plainFor_of_name (by decide +kernel)) (by decide +kernel) (by decide +kernel) (by decide) (fun _ _ h => by rw [h.1]; rfl) (fun _ U U' hal hh h => ⟨h.1, h.2.1.mv hal hh, h.2.2.1.al hal, h.2.2.2.1.al hal, h.2.2.2.2.1.mv hal hh, h.2.2.2.2.2.1.there hal hh, h.2.2.2.2.2.2⟩) (fun r U U' V V' h1 hal h2 h => Got.mv r U U' V V' h1 hal h2 h) ?_
  intro p e s m args below meth c s₁ X0 hexec hbytes hml hret hlk hnm hown hh0 W hP
  obtain ⟨rfl, hB, f1, f2, hA, s1, hz, l0, l2, hp⟩ := hP
  have c1 : Steps p.tables e below (s₁.setTop (entryFrame m #[.ref a, .ref b] 2)) (s₁.setTop (mkF m 0 #[.val (.ref a), .val (.ref b)] [])) := entry rfl
  have c2 : Steps p.tables e below (s₁.setTop (entryFrame m #[.ref a, .ref b] 2)) (s₁.setTop (mkF m 6 #[.val (.ref a), .val (.ref b)] [.null, .int (Int32.ofNat A.slots.size), .int 0, .ref b, .ref a])) := c1.trans (by
    refine XS.aloadN X0.here hexec rfl (hb hbytes d0) rfl rfl ?_
    refine XS.aloadN X0.here hexec rfl (hb hbytes d1) rfl rfl ?_
    refine iconstV X0.here hexec rfl 0 (hb hbytes d2) (by decide) ?_
    refine XS.aloadN X0.here hexec rfl (hb hbytes d3) rfl rfl ?_
    refine X0.alen hexec (hA.1.mv X0.warmed.alike hh0) rfl rfl (hb hbytes d4) ?_
    refine XS.aconstNull X0.here hexec rfl (hb hbytes d5) ?_
    exact Steps.refl _)
  obtain ⟨v3, T3, X3, E3, g3⟩ := X0.callN hexec (New4.law l a D fV fC b A z 0 A.slots.size) rfl hown (wks W (initW "java/lang/String" 27 New4.yN)) (W New4.tab (by simp only [site, List.mem_cons, List.mem_append, true_or, or_true])) (W := 0) (Nat.le_of_ble_eq_true rfl) (Nat.le_of_ble_eq_true rfl) (Nat.le_refl _) (by show 0 + A.slots.size ≤ A.slots.size; omega) (g := (mkF m 6 #[.val (.ref a), .val (.ref b)] [.null, .int (Int32.ofNat A.slots.size), .int (Int32.ofNat 0), .ref b, .ref a])) rfl (by rw [hml]; rfl) c2 (argsL := [.ref b, .int (Int32.ofNat 0), .int (Int32.ofNat A.slots.size), .null]) (rest := []) rfl rfl (by show 2 * 0 + 0 ≤ _; decide) (hb hbytes d6) (⟨rfl, hB.mv X0.warmed.alike hh0, f1.al X0.warmed.alike, f2.al X0.warmed.alike, hA.mv X0.warmed.alike hh0, s1.there X0.warmed.alike hh0, hz, l0, by omega, l2, fun i hi => by rw [Nat.zero_add]; exact hp i hi⟩)
  have e0 := Got.mv _ s₁ s _ _ hh0.symm (Vm.Alike.refl _) rfl E3
  obtain rfl := e0.1
  have c4 : Steps p.tables e below (s₁.setTop (entryFrame m #[.ref a, .ref b] 2)) (T3.setTop (mkF m 9 #[.val (.ref a), .val (.ref b)] [])) := g3
  exact ⟨T3, none, _, _, _, X3, by simp, rfl, by omega, (fun _ => rfl), e0, fun fs hl => c4.trans (X3.returnOut hexec hret (hb hbytes d9) hl)⟩
theorem pays {l : Launch} {R : Room} {p : Program} {e : Env} {below : List Frame} {s : State} {sargs : Array Value} {len W : Nat} (a : Addr) (D : Cell) (fV fC : Field) (b : Addr) (A : Cell) (z : Int32) (htab : tab.before sargs s = true) (hfr : 4 ≤ R.frames) (hlo : W + 65 ≤ R.locals) :
    Back l R p e below s sargs yN len W (fun A₁ a₁ => A₁.cells + 1 ≤ R.cells ∧ A₁.slots + A.slots.size ≤ R.slots ∧ P a D fV fC b A z a₁ A₁.U) (fun A₁ _ v₁ B₁ => E a D fV fC A v₁ A₁.U B₁.U ∧ B₁.locs = A₁.locs ++ [⟨a, fC.slot⟩, ⟨a, fV.slot⟩] ∧ B₁.cells = A₁.cells + 1 ∧ B₁.slots = A₁.slots + A.slots.size) :=
  (law l a D fV fC b A z).pays htab hfr (by omega)
end New1
end StrChars
namespace StrChars.Road
open Jvm Sem ClassFile Op Lib Jvm.Stand Jvm.Free Jvm.Free.XT
open Jvm.Lib.Cold (StaticIs)
abbrev ST : String := "java/lang/String"
/-- every table word that New1's law asks, flat -/
abbrev words : List Jvm.Cond := [.code New1.yN New1.yB 2 none, .initialized ST, .methodLink ST 27 New4.yN, .instanceMethod New4.yN,
  .code New4.yN New4.yB 6 none, .fieldLink ST 38 ST "COMPACT_STRINGS" "Z", .laysFinal ST ST "value" "[B", .fieldLink ST 9 ST "value" "[B", .laysFinal ST ST "coder" "B", .fieldLink ST 15 ST "coder" "B",
  .methodLink ST 1 Lib.objectInit, .instanceMethod Lib.objectInit, .code Lib.objectInit ⟨#[0xb1]⟩ 1 none, .methodLink ST 177 Cmp3.yN, .static Cmp3.yN, .methodLink ST 47 CodL.yN, .static CodL.yN,
  .code Cmp3.yN Cmp3.yB 6 (some (.array .byte)), .initialized U16, .arrayClass .byte, .methodLink U16 115 Cmp5.yN, .static Cmp5.yN, .code Cmp5.yN Cmp5.yB 7 (some .int), .code CodL.yN CodL.yB 2 (some .byte)]
theorem tab_of {a : Array Value} {s : State} (h : ∀ w ∈ words, w.before a s = true) : New1.tab.before a s = true := by
  have h5 : Cmp5.tab.before a s = true := unparts (wk h (.code Cmp5.yN Cmp5.yB 7 (some .int))) (wks h (.initialized Cmp5.yN.cls :: Cmp5.site))
  have hc : CodL.tab.before a s = true := unparts (wk h (.code CodL.yN CodL.yB 2 (some .byte))) (wks h (.initialized CodL.yN.cls :: CodL.site))
  have q5 : ∀ w ∈ Cmp5.tab :: words, w.before a s = true := fun w hw => (List.mem_cons.mp hw).elim (fun e => e ▸ h5) (h w)
  have h3 : Cmp3.tab.before a s = true := unparts (wk q5 (.code Cmp3.yN Cmp3.yB 6 (some (.array .byte)))) (wks q5 (.initialized Cmp3.yN.cls :: Cmp3.site))
  have q3 : ∀ w ∈ Cmp3.tab :: CodL.tab :: words, w.before a s = true := fun w hw => (List.mem_cons.mp hw).elim (fun e => e ▸ h3) fun hw => (List.mem_cons.mp hw).elim (fun e => e ▸ hc) (h w)
  have h4 : New4.tab.before a s = true := unparts (wk q3 (.code New4.yN New4.yB 6 none)) (wks q3 (.initialized New4.yN.cls :: New4.site))
  have q4 : ∀ w ∈ New4.tab :: words, w.before a s = true := fun w hw => (List.mem_cons.mp hw).elim (fun e => e ▸ h4) (h w)
  exact unparts (wk q4 (.code New1.yN New1.yB 2 none)) (wks q4 (.initialized New1.yN.cls :: New1.site))
/-- the words ride from the start Z to the walk's own state -/
theorem moved {Z s : State} {a0 args : Array Value} (hZ : Z.Warmed39 s.vm) (hw : ∀ d ∈ words, d.before a0 Z = true) : ∀ d ∈ words, d.before args s = true := fun d hd => by
  have q := hw d hd
  have t : ∀ d ∈ words, d = .arrayClass .byte ∨ (d.onTables && d.keepsFace) = true := by decide +kernel
  rcases t d hd with rfl | t
  · exact RoadKit.mvA hZ q
  · exact RoadKit.mv hZ q t
/-- WHAT COMES BACK, over the tables of the start Z: h the heap at the call, h' behind it -/
def Q (Z : State) (x : Addr) (A : Cell) (h : Heap) (v : Option Value) (h' : Heap) (L : List Loc) : Prop := v = none ∧ (∀ y ∈ L, y.base = x) ∧ RoadKit.Keep h h' [x] ∧ h'.size = h.size + 1 ∧ RoadKit.Exa Z h' x ST ∧ RoadKit.Fld Z h' x ST "value" "[B" (.ref h.size) ∧ RoadKit.Fld Z h' x ST "coder" "B" (.int 0) ∧
  (∃ V : Cell, RoadKit.Arr Z h' h.size V .byte ∧ V.vm = .none ∧ Z.vm.findClass "[B" = some V.cls ∧ V.slots.size = A.slots.size ∧ ∀ j, j < A.slots.size → V.slots[j]? = some (.int (lo8 (cv A j)))) ∧
  ∀ (O n d : String) (w : Value), RoadKit.Fld Z h x O n d w → RoadKit.slotOf Z O n d ≠ RoadKit.slotOf Z ST "value" "[B" → RoadKit.slotOf Z O n d ≠ RoadKit.slotOf Z ST "coder" "B" → RoadKit.Fld Z h' x O n d w
/-- **new String(chars) AT A CALL, IN THE ROAD'S FORM**: for specialBack behind newO: x the fresh String, b the char[] with the cell A -/
theorem back {p : Program} {l : Launch} {e : Env} {R : Room} {s : State} {args : Array Value} {below : List Frame} {len W : Nat} {Z : State} {a0 : Array Value} {h : Heap} (hZ : Z.Warmed39 s.vm) (hw : ∀ d ∈ words, d.before a0 Z = true) {kI : Nat} (wi : (Jvm.Cond.instantiable ST kI).before a0 Z = true)
    {x b : Addr} {A : Cell} {z : Int32} {v0 c0 : Value} (E : RoadKit.Exa Z h x ST) (V : RoadKit.Fld Z h x ST "value" "[B" v0) (C : RoadKit.Fld Z h x ST "coder" "B" c0) (K : RoadKit.Arr Z h b A .char) (hty : Typed .char A) (S : RoadKit.Sta Z h ST "COMPACT_STRINGS" "Z" (.int z)) (hz : ¬ z = 0)
    (l0 : 0 < A.slots.size) (l2 : A.slots.size ≤ 536870912) (hp : ∀ i, i < A.slots.size → ¬ 255 < cv A i) (hfr : 4 ≤ R.frames) (hlo : W + 65 ≤ R.locals) :
    Back l R p e below s args New1.yN len W (fun P a => a = #[.ref x, .ref b] ∧ P.U.heap = h ∧ P.cells + 1 ≤ R.cells ∧ P.slots + A.slots.size ≤ R.slots)
      (fun P _ v B => ∃ L, Q Z x A h v B.U.heap L ∧ B.locs = P.locs ++ L ∧ B.cells = P.cells + 1 ∧ B.slots = P.slots + A.slots.size) := by
  intro m meth c P g ig mk a X hg hsize hdg hW hn hp'
  obtain ⟨rfl, rfl, r1, r2⟩ := hp'
  have al : Z.vm.Alike P.U.vm := hZ.alike.trans X.warmed.alike
  obtain ⟨D, cfV, kV, iV, fV, hD, gV, stV, knV, obV, asV, slV⟩ := id V
  obtain ⟨D', cfC, kC, iC, fC, hD', gC, stC, -, -, asC, slC⟩ := id C
  cases hD.symm.trans hD'
  obtain ⟨D2, kD, e1, e2, e3, e4, e5⟩ := id E
  cases hD.symm.trans e1
  obtain ⟨c2, k2, i1, i2, i3, -⟩ := Cond.instantiable_spec wi
  cases e2.symm.trans i1
  cases e3.symm.trans i2
  obtain ⟨kU, u1, u2⟩ := al.2.2 _ _ e3
  have hB : Blank ST x D P.U := ⟨hD, ⟨knV, fun q hq => by rw [hq] at obV; cases obV⟩, by rw [al.findClass]; exact e2, kU, u1, by rw [u2]; exact i3, by rw [u2]; exact e5 i3⟩
  have F1 : Found ST "value" "[B" fV P.U := ⟨SBG.found_only al ⟨cfV, kV, iV, gV⟩, stV⟩
  have F2 : Found ST "coder" "B" fC P.U := ⟨SBG.found_only al ⟨cfC, kC, iC, gC⟩, stC⟩
  have hA : Ch b A P.U := ⟨⟨K.1, State.isArrayOf_alike al K.2.1, K.2.2, by omega⟩, hty⟩
  have hS : StaticIs P.U ST "COMPACT_STRINGS" "Z" (.int z) := by
    obtain ⟨cfS, iS, kS, fS, st, cS, t1, t2, t3, t4, t5, t6, t7⟩ := S
    exact StaticIs.there (s := { Z with heap := P.U.heap }) ⟨cfS, iS, kS, fS, st, cS, t1, t2, t3, t4, t5, (fun q => by rw [q] at t6; cases t6), t7⟩ al rfl
  obtain ⟨v, B, X', ⟨⟨hv, E', V', q1, q2, q3, q4, q5, q6, q7, q8, q9, q10, q11⟩, hl, hc, hs⟩, st⟩ := New1.pays x D fV fC b A z (tab_of (moved hZ hw)) hfr hlo m meth c P g ig mk _ X hg hsize hdg hW hn ⟨r1, r2, rfl, hB, F1, F2, hA, hS, hz, l0, l2, hp⟩
  have al' : Z.vm.Alike B.U.vm := hZ.alike.trans X'.warmed.alike
  have hsz : E'.slots.size = D.slots.size := by
    obtain ⟨-, -, -, kB, w1, w2, w3⟩ := q1
    obtain ⟨kB', y1, y2⟩ := al'.2.2 _ _ e3
    rw [q2.2.1] at w1
    cases w1.symm.trans y1
    rw [w3, e5 i3, y2]
  refine ⟨v, B, X', ⟨_, ⟨hv, ?_, ⟨by omega, fun y cy hy hn' => q10 y cy (by simpa using hn') hy, fun y cy hy => ?_⟩, q11, ⟨E', _, q1.1, by rw [q2.2.1]; exact e2, by rw [q2.2.1]; exact e3, by rw [q2.1]; exact obV, fun _ => by rw [hsz]; exact e5 i3⟩,
    ⟨E', cfV, kV, iV, fV, q1.1, gV, stV, by rw [q2.1]; exact knV, by rw [q2.1]; exact obV, by rw [q2.2.1]; exact asV, q3⟩, ⟨E', cfC, kC, iC, fC, q1.1, gC, stC, by rw [q2.1]; exact knV, by rw [q2.1]; exact obV, by rw [q2.2.1]; exact asC, q4⟩,
    ⟨V', ⟨q5.1, State.isArrayOf_alike al'.symm q5.2.1, q5.2.2.1⟩, q6, by rw [← al'.findClass]; exact q7, q8, fun j hj => by have := q9 j hj; rwa [Nat.zero_add] at this⟩, fun O n d w F n1 n2 => ?_⟩, hl, hc, hs⟩, st⟩
  · intro y hy
    simp only [List.mem_cons, List.not_mem_nil, or_false] at hy
    rcases hy with rfl | rfl <;> rfl
  · by_cases q : y = x
    · subst q
      cases hD.symm.trans hy
      exact ⟨E', q1.1, q2.2.1, q2.1, hsz⟩
    · exact ⟨cy, q10 y cy q hy, rfl, rfl, rfl⟩
  · obtain ⟨D3, cf, k, i, f, g1, g2, g3, g4, g5, g6, g7⟩ := F
    cases hD.symm.trans g1
    simp only [RoadKit.slotOf, g2, gV, gC, Option.map_some, Option.getD_some] at n1 n2
    exact ⟨E', cf, k, i, f, q1.1, g2, g3, by rw [q2.1]; exact g4, by rw [q2.1]; exact g5, by rw [q2.2.1]; exact g6, by rw [q2.2.2 f.slot (by simp [n1, n2])]; exact g7⟩
end StrChars.Road
namespace StrChars.Road
open Jvm Sem ClassFile Op Lib Jvm.Stand Jvm.Free Jvm.Free.XT
/-- WHAT COMES BACK, the byte[] as a list of values -/
def QA (Z : State) (x : Addr) (zn : Int32) (cs : List Int32) (h : Heap) (v : Option Value) (h' : Heap) (L : List Loc) : Prop := v = none ∧ (∀ y ∈ L, y.base = x) ∧ RoadKit.Keep h h' [x] ∧ h'.size = h.size + 1 ∧ RoadKit.Exa Z h' x ST ∧ RoadKit.Fld Z h' x ST "value" "[B" (.ref h.size) ∧ RoadKit.Fld Z h' x ST "coder" "B" (.int 0) ∧
  (∃ kb, Z.vm.findClass "[B" = some kb ∧ RoadKit.Arv Z h' h.size kb .byte zn (cs.map fun c => .int (lo8 c)) (.int 0)) ∧
  ∀ (O n d : String) (w : Value), RoadKit.Fld Z h x O n d w → RoadKit.slotOf Z O n d ≠ RoadKit.slotOf Z ST "value" "[B" → RoadKit.slotOf Z O n d ≠ RoadKit.slotOf Z ST "coder" "B" → RoadKit.Fld Z h' x O n d w
/-- **new String(chars) AT A CALL, THE ARRAYS AS LISTS**: the char[] at b holds cs, not empty, no char above 255 -/
theorem backArv {p : Program} {l : Launch} {e : Env} {R : Room} {s : State} {args : Array Value} {below : List Frame} {len W : Nat} {Z : State} {a0 : Array Value} {h : Heap} (hZ : Z.Warmed39 s.vm) (hw : ∀ d ∈ words, d.before a0 Z = true) {kI : Nat} (wi : (Jvm.Cond.instantiable ST kI).before a0 Z = true)
    {x b : Addr} {k : ClassId} {zn z : Int32} {cs : List Int32} {dv v0 c0 : Value} (E : RoadKit.Exa Z h x ST) (V : RoadKit.Fld Z h x ST "value" "[B" v0) (C : RoadKit.Fld Z h x ST "coder" "B" c0) (K : RoadKit.Arv Z h b k .char zn (cs.map Value.int) dv) (S : RoadKit.Sta Z h ST "COMPACT_STRINGS" "Z" (.int z)) (hz : ¬ z = 0)
    (hlen : zn.toNatClampNeg = cs.length) (h0 : 0 < cs.length) (hbig : cs.length ≤ 536870912) (hall : ∀ c ∈ cs, ¬ 255 < c) (hfr : 4 ≤ R.frames) (hlo : W + 65 ≤ R.locals) :
    Back l R p e below s args New1.yN len W (fun P a => a = #[.ref x, .ref b] ∧ P.U.heap = h ∧ P.cells + 1 ≤ R.cells ∧ P.slots + cs.length ≤ R.slots)
      (fun P _ v B => ∃ L, QA Z x zn cs h v B.U.heap L ∧ B.locs = P.locs ++ L ∧ B.cells = P.cells + 1 ∧ B.slots = P.slots + cs.length) := by
  obtain ⟨A, K1, K2, K3, K4, K5, K6⟩ := K
  have e : A.slots.size = cs.length := K3.trans hlen
  have hat : ∀ (i : Nat) (hi : i < cs.length), A.slots[i]? = some (.int cs[i]) := fun i hi => by rw [K5 i (by omega)]; simp [List.getD_eq_getElem?_getD, hi]
  have hcv : ∀ (i : Nat) (hi : i < cs.length), cv A i = cs[i] := fun i hi => by unfold cv; rw [hat i hi]
  have hty : Typed .char A := fun i v hv => by
    have hi : i < A.slots.size := (Array.getElem?_eq_some_iff.mp hv).1
    have q := K5 i hi
    rw [hv] at q
    rw [Option.some.inj q]
    exact K6 i hi
  refine Back.mono (back hZ hw wi E V C K1 hty S hz (by omega) (by omega) (fun i hi => by rw [hcv i (by omega)]; exact hall _ (List.getElem_mem _)) hfr hlo) (fun P a hp => ⟨hp.1, hp.2.1, hp.2.2.1, by rw [e]; exact hp.2.2.2⟩) (fun P a v B hp hq => ?_)
  obtain ⟨L, ⟨q1, q2, q3, q4, q5, q6, q7, ⟨V', v1, v2, v3, v4, v5⟩, q9⟩, hl, hc, hs⟩ := hq
  refine ⟨L, ⟨q1, q2, q3, q4, q5, q6, q7, ⟨V'.cls, v3, V', v1, rfl, by rw [v4, e, hlen], K4, fun i hi => ?_, fun i hi => ?_⟩, q9⟩, hl, hc, by rw [hs, e]⟩
  · have hi' : i < cs.length := by omega
    rw [v5 i (by omega), hcv i hi']; simp [List.getD_eq_getElem?_getD, hi']
  · have hi' : i < cs.length := by omega
    simp only [List.getD_eq_getElem?_getD, List.getElem?_map, List.getElem?_eq_getElem hi', Option.map_some, Option.getD_some]
    exact fits_lo8 _
end StrChars.Road
namespace StrChars.Road
open Jvm Sem ClassFile Op Lib Jvm.Stand Jvm.Free Jvm.Free.XT
/-- WHAT COMES BACK, in the writer's own shape -/
def QV (Z : State) (x : Addr) (N : Int32) (bs : List Int32) (h : Heap) (n0 : Nat) (v : Option Value) (h' : Heap) (L : List Loc) : Prop := v = none ∧ RoadKit.Fr n0 L ∧ RoadKit.Keep h h' [x] ∧ RoadKit.Exa Z h' x ST ∧ RoadKit.Fld Z h' x ST "coder" "B" (.int 0) ∧
  ∃ (t : Addr) (kb : ClassId), n0 ≤ t ∧ h.size ≤ t ∧ ¬ t = x ∧ RoadKit.Fld Z h' x ST "value" "[B" (.ref t) ∧ RoadKit.Arv Z h' t kb .byte N (bs.map Value.int) (.int 0)
/-- **new String(chars) AT A CALL, FOR THE WRITER**: a char[] of n known ints, each 0 to 255 -/
theorem backV {p : Program} {l : Launch} {e : Env} {R : Room} {s : State} {args : Array Value} {below : List Frame} {len W : Nat} {Z : State} {a0 : Array Value} {h : Heap} (hZ : Z.Warmed39 s.vm) (hw : ∀ d ∈ words, d.before a0 Z = true) {kI : Nat} (wi : (Jvm.Cond.instantiable ST kI).before a0 Z = true)
    {x b : Addr} {kC : ClassId} {cs bs : List Int32} {d v0 c0 : Value} {z N : Int32} {n n0 : Nat} (hx0 : n0 ≤ x) (hh0 : n0 ≤ h.size) (E : RoadKit.Exa Z h x ST) (V : RoadKit.Fld Z h x ST "value" "[B" v0) (C : RoadKit.Fld Z h x ST "coder" "B" c0) (K : RoadKit.Arv Z h b kC .char N (cs.map Value.int) d) (S : RoadKit.Sta Z h ST "COMPACT_STRINGS" "Z" (.int z)) (hz : ¬ z = 0)
    (hn : cs.length = n) (hN : N = Int32.ofNat n) (l0 : 0 < n) (l2 : n ≤ 4000) (hp : ∀ c ∈ cs, ¬ c < 0 ∧ ¬ (255 : Int32) < c) (hb : bs = cs.map (fun c => c.toInt8.toInt32)) (hfr : 4 ≤ R.frames) (hlo : W + 65 ≤ R.locals) :
    Back l R p e below s args (⟨"java/lang/String", "<init>", "([C)V"⟩ : MethodName) len W (fun P a => a = #[.ref x, .ref b] ∧ P.U.heap = h ∧ P.cells + 1 ≤ R.cells ∧ P.slots + n ≤ R.slots)
      (fun P _ v B => ∃ L, QV Z x N bs h n0 v B.U.heap L ∧ B.locs = P.locs ++ L ∧ B.cells = P.cells + 1 ∧ B.slots = P.slots + n) := by
  subst hn hN hb
  refine Back.mono (backArv hZ hw wi E V C K S hz (n32 (by omega)) l0 (by omega) (fun c hc => (hp c hc).2) hfr hlo) (fun P a hp => hp) (fun P a v B hp hq => ?_)
  obtain ⟨L, ⟨q1, q2, q3, q4, q5, q6, q7, ⟨kb, v1, v2⟩, q9⟩, hl, hc, hs⟩ := hq
  exact ⟨L, ⟨q1, fun y hy => by rw [q2 y hy]; exact hx0, q3, q5, q7, h.size, kb, hh0, Nat.le_refl _, Nat.ne_of_gt E.lt, q6, by rw [List.map_map]; exact v2⟩, hl, hc, hs⟩
end StrChars.Road
namespace StrChars
open Jvm Sem ClassFile Op Lib Jvm.Stand Jvm.Free.XT Jvm.Free.ALB Jvm.Free.JM Jvm.Free
open Jvm.Lib.Cold (StaticIs)
def hi8 (x : Int32) : Int32 := lo8 (x >>> ((8 : Int32) &&& 31))
end StrChars
namespace StrChars.Road
open Jvm Sem ClassFile Op Lib Jvm.Stand Jvm.Free Jvm.Free.XT
open Jvm.Lib.Cold (StaticIs)
/-- the bytes of the chars cs, low before high -/
def wideBytes : List Int32 → List Value
  | [] => []
  | c :: cs => .int (lo8 c) :: .int (hi8 c) :: wideBytes cs
/-- an array of N2 bytes vs codes the chars cs by the coder cd -/
def CodA (cs : List Int32) (cd N2 : Int32) (vs : List Value) : Prop := (cd = 0 ∧ N2 = Int32.ofNat cs.length ∧ vs = (cs.map fun c => Value.int (lo8 c)) ∧ ∀ c ∈ cs, ¬ 255 < c) ∨ (cd = 1 ∧ N2 = Int32.ofNat (2 * cs.length) ∧ vs = wideBytes cs ∧ ∃ c ∈ cs, 255 < c)
end StrChars.Road
namespace StrChars.Road
open Jvm Sem ClassFile Op Lib Jvm.Stand Jvm.Free Jvm.Free.XT
open Jvm.Lib.Cold (StaticIs)
/-- what backV says of its String, as the contracts of this text ask it: cs's low bytes, coder 0 -/
theorem codOf {cs : List Int32} {n : Nat} (hn : cs.length = n) (hb : ∀ c ∈ cs, ¬ 255 < c) : CodA cs 0 (Int32.ofNat n) ((cs.map lo8).map Value.int) := Or.inl ⟨rfl, by rw [hn], by simp [List.map_map, Function.comp_def], hb⟩
end StrChars.Road
end Jvm.Pilot.@@N@@
namespace Jvm.Pilot.@@N@@.Y
open Jvm Jvm.ClassFile Sem Op Lib Jvm.Free Jvm.Stand Jvm.LawKit Jvm.RoadKit Bundle
/-- from st the run comes to an end that G tells -/
def Ends (p : Program) (e : Env) (below : List Frame) (G : Outcome → State → Prop) (st : State) : Prop := ∃ s₂ o, Steps p.tables e below st s₂ ∧ s₂.status = .running ∧ Ended s₂ below o ∧ G o s₂
theorem Ends.go {p : Program} {e : Env} {below : List Frame} {G : Outcome → State → Prop} {A B : State} (k : ∀ t, Steps p.tables e below B t → Steps p.tables e below A t) (h : Ends p e below G B) : Ends p e below G A := by
  obtain ⟨s₂, o, h1, h2⟩ := h
  exact ⟨s₂, o, k _ h1, h2⟩
theorem leB {a b : Nat} (h : Nat.ble a b = true) : a ≤ b := Nat.le_of_ble_eq_true h
theorem catR {v : Value} (h : v.isRef = true) : v.category = 1 := by rcases ref_cases h with rfl | ⟨z, rfl⟩ <;> rfl
theorem narR {v : Value} {C : String} (h : v.isRef = true) : narrow (.object C) v = v := by rcases ref_cases h with rfl | ⟨z, rfl⟩ <;> rfl
theorem fitR {v : Value} {C : String} (h : v.isRef = true) : fits (.object C) v = true := by rcases ref_cases h with rfl | ⟨z, rfl⟩ <;> rfl
theorem b01 {q : Int32} (h : q = 0 ∨ q = 1) : narrow .boolean (.int q) = .int q ∧ fits .boolean (.int q) = true := by rcases h with rfl | rfl <;> exact ⟨rfl, rfl⟩
theorem or01 {q : Int32} {c : Prop} (h : (q = 0 ∧ c) ∨ (q = 1 ∧ ¬ c)) : q = 0 ∨ q = 1 := h.imp (·.1) (·.1)
theorem or10 {q : Int32} {c : Prop} (h : (q = 1 ∧ c) ∨ (q = 0 ∧ ¬ c)) : q = 0 ∨ q = 1 := (h.imp (·.1) (·.1)).symm
/-- where the walk stands: over the start s with the tables vm0; h the heap at hand; ws: the old places it may write -/
def Wk (co : Bool) (Z : State) (a0 : Array Value) (EL : List (String × Nat)) (own : String) (bytes : ByteArray) (maxL : Nat) (ret : Option FieldType) (nm : String) (ws : List Addr) (p : Program) (l : Launch) (e : Env) (R : Room) (s : State) (m : MethodId) (args : Array Value) (below : List Frame) (meth : Method) (c : Code) (vm0 : Vm) (T : State) (h : Heap) (locs : List Loc) (cells slots : Nat) : Prop :=
  Stand p l e R (s.setVm vm0) m args below meth c T locs cells slots ∧ T.heap = h ∧ (∃ k0, s.Since vm0 k0 ∧ k0 ≤ h.size) ∧ (co = false → vm0 = s.vm) ∧ Z.Warmed39 vm0 ∧ vm0.findClass own = some m.cls ∧ CHr Z EL s.vm s.heap vm0 h ∧ EW Z a0 EL ∧
  (p.tables.exec = Jvm.exec ∧ c.code = bytes ∧ c.maxLocals = maxL ∧ meth.sig.returnType = ret ∧ meth.name = nm ∧ meth.locks = false) ∧ Ext Z.heap h ∧ Fr Z.heap.size locs ∧ Keep s.heap h ws
section Walk
variable {co : Bool} {Z : State} {a0 : Array Value} {EL : List (String × Nat)} {own : String} {bytes : ByteArray} {maxL : Nat} {ret : Option FieldType} {nm : String} {ws : List Addr} {p : Program} {l : Launch} {e : Env} {R : Room} {s : State} {m : MethodId} {args : Array Value} {below : List Frame} {meth : Method} {c : Code} {vm0 : Vm} {T : State} {h : Heap} {locs : List Loc} {cells slots : Nat} {G : Outcome → State → Prop} {pc pc' : Nat} {ls ls' : Array Slot} {rest : List Value}
abbrev WkA (co : Bool) (Z : State) (a0 : Array Value) (EL : List (String × Nat)) (own : String) (bytes : ByteArray) (maxL : Nat) (ret : Option FieldType) (nm : String) (ws : List Addr) (p : Program) (l : Launch) (e : Env) (R : Room) (s : State) (m : MethodId) (args : Array Value) (below : List Frame) (meth : Method) (c : Code) (vm0 : Vm) (T : State) (h : Heap) (locs : List Loc) (cells slots : Nat) : Prop := Wk co Z a0 EL own bytes maxL ret nm ws p l e R s m args below meth c vm0 T h locs cells slots
theorem Wk.st (X : Wk co Z a0 EL own bytes maxL ret nm ws p l e R s m args below meth c vm0 T h locs cells slots) : Stand p l e R (s.setVm vm0) m args below meth c T locs cells slots := X.1
theorem Wk.eT (X : Wk co Z a0 EL own bytes maxL ret nm ws p l e R s m args below meth c vm0 T h locs cells slots) : T.heap = h := X.2.1
theorem Wk.hx (X : Wk co Z a0 EL own bytes maxL ret nm ws p l e R s m args below meth c vm0 T h locs cells slots) : p.tables.exec = Jvm.exec := X.2.2.2.2.2.2.2.2.1.1
theorem Wk.hd (X : Wk co Z a0 EL own bytes maxL ret nm ws p l e R s m args below meth c vm0 T h locs cells slots) {r : Except DecodeError (Instr × Nat)} (d : decode bytes pc = r) : decode c.code pc = r := by
  rw [X.2.2.2.2.2.2.2.2.1.2.1]; exact d
theorem Wk.hml (X : Wk co Z a0 EL own bytes maxL ret nm ws p l e R s m args below meth c vm0 T h locs cells slots) : c.maxLocals = maxL := X.2.2.2.2.2.2.2.2.1.2.2.1
theorem Wk.hret (X : Wk co Z a0 EL own bytes maxL ret nm ws p l e R s m args below meth c vm0 T h locs cells slots) : meth.sig.returnType = ret := X.2.2.2.2.2.2.2.2.1.2.2.2.1
theorem Wk.hnm (X : Wk co Z a0 EL own bytes maxL ret nm ws p l e R s m args below meth c vm0 T h locs cells slots) : meth.name = nm := X.2.2.2.2.2.2.2.2.1.2.2.2.2.1
theorem Wk.hlk (X : Wk co Z a0 EL own bytes maxL ret nm ws p l e R s m args below meth c vm0 T h locs cells slots) : meth.locks = false := X.2.2.2.2.2.2.2.2.1.2.2.2.2.2
theorem Wk.hZ (X : Wk co Z a0 EL own bytes maxL ret nm ws p l e R s m args below meth c vm0 T h locs cells slots) : Z.Warmed39 (s.setVm vm0).vm := X.2.2.2.2.1
theorem Wk.al (X : Wk co Z a0 EL own bytes maxL ret nm ws p l e R s m args below meth c vm0 T h locs cells slots) : Z.vm.Alike vm0 := X.2.2.2.2.1.alike
theorem Wk.hown (X : Wk co Z a0 EL own bytes maxL ret nm ws p l e R s m args below meth c vm0 T h locs cells slots) : (s.setVm vm0).vm.findClass own = some m.cls := X.2.2.2.2.2.1
theorem Wk.ch (X : Wk co Z a0 EL own bytes maxL ret nm ws p l e R s m args below meth c vm0 T h locs cells slots) : CHr Z EL s.vm s.heap vm0 h := X.2.2.2.2.2.2.1
theorem Wk.H (X : Wk co Z a0 EL own bytes maxL ret nm ws p l e R s m args below meth c vm0 T h locs cells slots) : CHv Z EL vm0 h := X.ch.1
theorem Wk.ew (X : Wk co Z a0 EL own bytes maxL ret nm ws p l e R s m args below meth c vm0 T h locs cells slots) : EW Z a0 EL := X.2.2.2.2.2.2.2.1
theorem Wk.old (X : Wk co Z a0 EL own bytes maxL ret nm ws p l e R s m args below meth c vm0 T h locs cells slots) : Ext Z.heap h := X.2.2.2.2.2.2.2.2.2.1
theorem Wk.fr (X : Wk co Z a0 EL own bytes maxL ret nm ws p l e R s m args below meth c vm0 T h locs cells slots) : Fr Z.heap.size locs := X.2.2.2.2.2.2.2.2.2.2.1
theorem Wk.kp (X : Wk co Z a0 EL own bytes maxL ret nm ws p l e R s m args below meth c vm0 T h locs cells slots) : Keep s.heap h ws := X.2.2.2.2.2.2.2.2.2.2.2
theorem Wk.since (X : Wk co Z a0 EL own bytes maxL ret nm ws p l e R s m args below meth c vm0 T h locs cells slots) : ∃ k0, s.Since vm0 k0 ∧ k0 ≤ h.size := X.2.2.1
theorem Wk.nr (X : Wk co Z a0 EL own bytes maxL ret nm ws p l e R s m args below meth c vm0 T h locs cells slots) : co = false → vm0 = s.vm := X.2.2.2.1
/-- a step that leaves the heap -/
theorem Wk.same (X : Wk co Z a0 EL own bytes maxL ret nm ws p l e R s m args below meth c vm0 T h locs cells slots) {T' : State} (Y : Stand p l e R (s.setVm vm0) m args below meth c T' locs cells slots) (e' : T'.heap = h) : Wk co Z a0 EL own bytes maxL ret nm ws p l e R s m args below meth c vm0 T' h locs cells slots :=
  ⟨Y, e', X.2.2⟩
theorem fr_app0 {k : Nat} {L : List Loc} (N : Fr k L) : Fr k (L ++ []) := by rw [List.append_nil]; exact N
/-- a step that makes new cells -/
theorem Wk.ext (X : Wk co Z a0 EL own bytes maxL ret nm ws p l e R s m args below meth c vm0 T h locs cells slots) {T' : State} {h' : Heap} {cells' slots' : Nat} (Y : Stand p l e R (s.setVm vm0) m args below meth c T' locs cells' slots') (e' : T'.heap = h') (E : Ext h h') : Wk co Z a0 EL own bytes maxL ret nm ws p l e R s m args below meth c vm0 T' h' locs cells' slots' := by
  obtain ⟨k0, k1, k2⟩ := X.since
  exact ⟨Y, e', ⟨k0, k1, Nat.le_trans k2 E.1⟩, X.nr, X.hZ, X.hown, X.ch.trans (CHr.ext E X.H), X.ew, X.2.2.2.2.2.2.2.2.1, ⟨Nat.le_trans X.old.1 E.1, fun a cl q => E.2 _ _ (X.old.2 _ _ q)⟩, X.fr, X.kp.ext E⟩
/-- a narrow call: L written, of old cells those at wc alone -/
theorem Wk.keep (X : Wk co Z a0 EL own bytes maxL ret nm ws p l e R s m args below meth c vm0 T h locs cells slots) {T' : State} {h' : Heap} {L : List Loc} {wc : List Addr} {cells' slots' : Nat} (Y : Stand p l e R (s.setVm vm0) m args below meth c T' (locs ++ L) cells' slots') (e' : T'.heap = h') (K : Keep h h' wc) (S : ∀ x ∈ wc, Safe Z EL vm0 h x) (N : Fr Z.heap.size L) (hn : ∀ x ∈ wc, Z.heap.size ≤ x) (hk : ∀ x ∈ wc, x ∈ ws ∨ s.heap.size ≤ x) : Wk co Z a0 EL own bytes maxL ret nm ws p l e R s m args below meth c vm0 T' h' (locs ++ L) cells' slots' := by
  obtain ⟨k0, k1, k2⟩ := X.since
  have O : Old Z Z.heap.size h' := Old.keep ⟨rfl, X.old⟩ K hn
  exact ⟨Y, e', ⟨k0, k1, Nat.le_trans k2 K.1⟩, X.nr, X.hZ, X.hown, X.ch.trans (CHr.keep K S X.H), X.ew, X.2.2.2.2.2.2.2.2.1, O.2, X.fr.app N, X.kp.trans K hk⟩
/-- one place of a new object written -/
theorem Wk.wr (X : Wk co Z a0 EL own bytes maxL ret nm ws p l e R s m args below meth c vm0 T h locs cells slots) {T' : State} {h' : Heap} {a : Addr} {sl : Nat} {v : Value} (Y : Stand p l e R (s.setVm vm0) m args below meth c T' (locs ++ [⟨a, sl⟩]) cells slots) (e' : T'.heap = h') (W : Wr h h' a sl v) (S : Safe Z EL vm0 h a) (hn : Z.heap.size ≤ a) (hk : a ∈ ws ∨ s.heap.size ≤ a) : Wk co Z a0 EL own bytes maxL ret nm ws p l e R s m args below meth c vm0 T' h' (locs ++ [⟨a, sl⟩]) cells slots :=
  X.keep Y e' (Keep.of_wr W) (sfS S sf0) (fun y hy => by cases List.mem_singleton.mp hy; exact hn) (allS hn all0) (allS hk all0)
/-- a callee that may intern -/
theorem Wk.cold (X : Wk true Z a0 EL own bytes maxL ret nm ws p l e R s m args below meth c vm0 T h locs cells slots) {T' : State} {L : List Loc} {wc : List Addr} {cells' slots' : Nat} (Y : Stand p l e R ((s.setVm vm0).setVm T'.vm) m args below meth c T' (locs ++ L) cells' slots') (hS : (s.setVm vm0).Since T'.vm T'.heap.size) (hC : CHr Z EL vm0 h T'.vm T'.heap) (K : Keep h T'.heap wc) (N : Fr Z.heap.size L) (O : Ext Z.heap T'.heap) (hk : ∀ x ∈ wc, x ∈ ws ∨ s.heap.size ≤ x) : Wk true Z a0 EL own bytes maxL ret nm ws p l e R s m args below meth c T'.vm T' T'.heap (locs ++ L) cells' slots' := by
  obtain ⟨k0, k1, k2⟩ := X.since
  exact ⟨Y, rfl, ⟨_, k1.trans hS (Nat.le_trans k2 K.1), Nat.le_refl _⟩, fun q => (by cases q), State.Warmed39.trans X.hZ hS.1, (by rw [hS.1.alike.findClass]; exact X.hown), X.ch.trans hC, X.ew, X.2.2.2.2.2.2.2.2.1, O, X.fr.app N, X.kp.trans K hk⟩
theorem safeE {vm : Vm} {x : Addr} : Safe Z [] vm h x := fun B => by obtain ⟨q, hq, -⟩ := B; cases hq
theorem chrE {vm vm' : Vm} {h' : Heap} (q : h.size ≤ h'.size) : CHr Z [] vm h vm' h' := ⟨(fun _ hq => by cases hq), q, fun y B => absurd B safeE⟩
/-- a String whose value is still null is no booked one -/
theorem Safe.blank {vm : Vm} {x : Addr} (hal : Z.vm.Alike vm) (E : Exa Z h x "java/lang/String") {k : Nat} (wi : (Cond.instantiable "java/lang/String" k).before a0 Z = true) (F : Fld Z h x "java/lang/String" "value" "[B" .null) : Safe Z EL vm h x := fun B => by
  obtain ⟨pr, -, u, a, -, q, hq, SB, hy⟩ := B
  have hd := SB.hd
  have ha := SB.ha
  rcases hy with rfl | rfl
  · obtain ⟨cS, ⟨⟨-, -, -, ⟨cv, kv, iv, s4, -⟩, -, -, -, v1, -⟩, -⟩, -⟩ := SB
    obtain ⟨cell, cf, k2, i, f, h1, h2, -, -, -, -, h7⟩ := F
    cases (show h[q.sa]? = some q.sC from ha).symm.trans h1
    obtain ⟨k3, e3, -⟩ := State.fieldFound?_setVm (s := ({ Z with heap := h } : State)) (vm' := vm) hal h2
    have e4 := (show (Wst Z vm h).fieldFound? _ _ _ = _ from e3).symm.trans s4
    simp only [Option.some.injEq, Prod.mk.injEq] at e4
    rw [← e4.2.2.2, h7] at v1
    cases v1
  · obtain ⟨cS, ⟨⟨-, -, -, -, -, -, -, -, -, -, ⟨-, kB, hkB, compB, hkindB⟩, -⟩, -, -⟩, -⟩ := SB
    obtain ⟨cell, kE, e1, e2, e3, -, -⟩ := E
    cases (show h[q.sd]? = some q.SA from hd).symm.trans e1
    obtain ⟨c2, k2, i1, i2, i3, -⟩ := Cond.instantiable_spec wi
    cases e2.symm.trans i1
    obtain ⟨kE', hk', ek⟩ := hal.2.2 _ _ i2
    cases (show vm.classes[q.SA.cls]? = some kB from hkB).symm.trans hk'
    rw [ek, i3] at hkindB
    cases hkindB
theorem Wk.iadd (X : Wk co Z a0 EL own bytes maxL ret nm ws p l e R s m args below meth c vm0 T h locs cells slots) {x y : Int32} (hd : decode bytes pc = .ok (.iadd, 1))  (hp : pc + 1 = pc') (k : Ends p e below G (T.setTop (mkF m pc' ls (.int (x + y) :: rest)))) : Ends p e below G (T.setTop (mkF m pc ls (.int y :: .int x :: rest))) := by
  subst hp; exact Ends.go (fun _ q => XS.iadd X.st.here X.hx rfl (X.hd hd) rfl q) k
theorem Wk.isub (X : Wk co Z a0 EL own bytes maxL ret nm ws p l e R s m args below meth c vm0 T h locs cells slots) {x y : Int32} (hd : decode bytes pc = .ok (.isub, 1))  (hp : pc + 1 = pc') (k : Ends p e below G (T.setTop (mkF m pc' ls (.int (x - y) :: rest)))) : Ends p e below G (T.setTop (mkF m pc ls (.int y :: .int x :: rest))) := by
  subst hp; exact Ends.go (fun _ q => XS.isub X.st.here X.hx rfl (X.hd hd) rfl q) k
theorem Wk.imul (X : Wk co Z a0 EL own bytes maxL ret nm ws p l e R s m args below meth c vm0 T h locs cells slots) {x y : Int32} (hd : decode bytes pc = .ok (.imul, 1))  (hp : pc + 1 = pc') (k : Ends p e below G (T.setTop (mkF m pc' ls (.int (x * y) :: rest)))) : Ends p e below G (T.setTop (mkF m pc ls (.int y :: .int x :: rest))) := by
  subst hp; exact Ends.go (fun _ q => XS.imul X.st.here X.hx rfl (X.hd hd) rfl q) k
theorem Wk.iand (X : Wk co Z a0 EL own bytes maxL ret nm ws p l e R s m args below meth c vm0 T h locs cells slots) {x y : Int32} (hd : decode bytes pc = .ok (.iand, 1))  (hp : pc + 1 = pc') (k : Ends p e below G (T.setTop (mkF m pc' ls (.int (x &&& y) :: rest)))) : Ends p e below G (T.setTop (mkF m pc ls (.int y :: .int x :: rest))) := by
  subst hp; exact Ends.go (fun _ q => XS.iand X.st.here X.hx rfl (X.hd hd) rfl q) k
theorem Wk.ior (X : Wk co Z a0 EL own bytes maxL ret nm ws p l e R s m args below meth c vm0 T h locs cells slots) {x y : Int32} (hd : decode bytes pc = .ok (.ior, 1))  (hp : pc + 1 = pc') (k : Ends p e below G (T.setTop (mkF m pc' ls (.int (x ||| y) :: rest)))) : Ends p e below G (T.setTop (mkF m pc ls (.int y :: .int x :: rest))) := by
  subst hp; exact Ends.go (fun _ q => XS.ior X.st.here X.hx rfl (X.hd hd) rfl q) k
theorem Wk.ixor (X : Wk co Z a0 EL own bytes maxL ret nm ws p l e R s m args below meth c vm0 T h locs cells slots) {x y : Int32} (hd : decode bytes pc = .ok (.ixor, 1))  (hp : pc + 1 = pc') (k : Ends p e below G (T.setTop (mkF m pc' ls (.int (x ^^^ y) :: rest)))) : Ends p e below G (T.setTop (mkF m pc ls (.int y :: .int x :: rest))) := by
  subst hp; exact Ends.go (fun _ q => XS.ixor X.st.here X.hx rfl (X.hd hd) rfl q) k
theorem Wk.ishl (X : Wk co Z a0 EL own bytes maxL ret nm ws p l e R s m args below meth c vm0 T h locs cells slots) {x y : Int32} (hd : decode bytes pc = .ok (.ishl, 1))  (hp : pc + 1 = pc') (k : Ends p e below G (T.setTop (mkF m pc' ls (.int (x <<< (y &&& 31)) :: rest)))) : Ends p e below G (T.setTop (mkF m pc ls (.int y :: .int x :: rest))) := by
  subst hp; exact Ends.go (fun _ q => XS.ishl X.st.here X.hx rfl (X.hd hd) rfl q) k
theorem Wk.ishr (X : Wk co Z a0 EL own bytes maxL ret nm ws p l e R s m args below meth c vm0 T h locs cells slots) {x y : Int32} (hd : decode bytes pc = .ok (.ishr, 1))  (hp : pc + 1 = pc') (k : Ends p e below G (T.setTop (mkF m pc' ls (.int (x >>> (y &&& 31)) :: rest)))) : Ends p e below G (T.setTop (mkF m pc ls (.int y :: .int x :: rest))) := by
  subst hp; exact Ends.go (fun _ q => XS.ishr X.st.here X.hx rfl (X.hd hd) rfl q) k
theorem Wk.iushr (X : Wk co Z a0 EL own bytes maxL ret nm ws p l e R s m args below meth c vm0 T h locs cells slots) {x y : Int32} (hd : decode bytes pc = .ok (.iushr, 1))  (hp : pc + 1 = pc') (k : Ends p e below G (T.setTop (mkF m pc' ls (.int ((x.toUInt32 >>> (y &&& 31).toUInt32).toInt32) :: rest)))) : Ends p e below G (T.setTop (mkF m pc ls (.int y :: .int x :: rest))) := by
  subst hp; exact Ends.go (fun _ q => XS.iushr X.st.here X.hx rfl (X.hd hd) rfl q) k
theorem Wk.ladd (X : Wk co Z a0 EL own bytes maxL ret nm ws p l e R s m args below meth c vm0 T h locs cells slots) {x y : Int64} (hd : decode bytes pc = .ok (.ladd, 1))  (hp : pc + 1 = pc') (k : Ends p e below G (T.setTop (mkF m pc' ls (.long (x + y) :: rest)))) : Ends p e below G (T.setTop (mkF m pc ls (.long y :: .long x :: rest))) := by
  subst hp; exact Ends.go (fun _ q => XS.ladd X.st.here X.hx rfl (X.hd hd) rfl q) k
theorem Wk.lsub (X : Wk co Z a0 EL own bytes maxL ret nm ws p l e R s m args below meth c vm0 T h locs cells slots) {x y : Int64} (hd : decode bytes pc = .ok (.lsub, 1))  (hp : pc + 1 = pc') (k : Ends p e below G (T.setTop (mkF m pc' ls (.long (x - y) :: rest)))) : Ends p e below G (T.setTop (mkF m pc ls (.long y :: .long x :: rest))) := by
  subst hp; exact Ends.go (fun _ q => XS.lsub X.st.here X.hx rfl (X.hd hd) rfl q) k
theorem Wk.land (X : Wk co Z a0 EL own bytes maxL ret nm ws p l e R s m args below meth c vm0 T h locs cells slots) {x y : Int64} (hd : decode bytes pc = .ok (.land, 1))  (hp : pc + 1 = pc') (k : Ends p e below G (T.setTop (mkF m pc' ls (.long (x &&& y) :: rest)))) : Ends p e below G (T.setTop (mkF m pc ls (.long y :: .long x :: rest))) := by
  subst hp; exact Ends.go (fun _ q => XS.land X.st.here X.hx rfl (X.hd hd) rfl q) k
theorem Wk.lxor (X : Wk co Z a0 EL own bytes maxL ret nm ws p l e R s m args below meth c vm0 T h locs cells slots) {x y : Int64} (hd : decode bytes pc = .ok (.lxor, 1))  (hp : pc + 1 = pc') (k : Ends p e below G (T.setTop (mkF m pc' ls (.long (x ^^^ y) :: rest)))) : Ends p e below G (T.setTop (mkF m pc ls (.long y :: .long x :: rest))) := by
  subst hp; exact Ends.go (fun _ q => XS.lxor X.st.here X.hx rfl (X.hd hd) rfl q) k
theorem Wk.lor (X : Wk co Z a0 EL own bytes maxL ret nm ws p l e R s m args below meth c vm0 T h locs cells slots) {x y : Int64} (hd : decode bytes pc = .ok (.lor, 1))  (hp : pc + 1 = pc') (k : Ends p e below G (T.setTop (mkF m pc' ls (.long (x ||| y) :: rest)))) : Ends p e below G (T.setTop (mkF m pc ls (.long y :: .long x :: rest))) := by
  subst hp; exact Ends.go (fun _ q => XS.lor X.st.here X.hx rfl (X.hd hd) rfl q) k
theorem Wk.lushr (X : Wk co Z a0 EL own bytes maxL ret nm ws p l e R s m args below meth c vm0 T h locs cells slots) {x : Int64} {y : Int32} (hd : decode bytes pc = .ok (.lushr, 1))  (hp : pc + 1 = pc') (k : Ends p e below G (T.setTop (mkF m pc' ls (.long (XT.ushrL x y) :: rest)))) : Ends p e below G (T.setTop (mkF m pc ls (.int y :: .long x :: rest))) := by
  subst hp; exact Ends.go (fun _ q => XT.lushr X.st.here X.hx rfl (X.hd hd) rfl q) k
theorem Wk.i2c (X : Wk co Z a0 EL own bytes maxL ret nm ws p l e R s m args below meth c vm0 T h locs cells slots) {x : Int32} (hd : decode bytes pc = .ok (.i2c, 1))  (hp : pc + 1 = pc') (k : Ends p e below G (T.setTop (mkF m pc' ls (.int (x.toUInt32.toUInt16.toUInt32.toInt32) :: rest)))) : Ends p e below G (T.setTop (mkF m pc ls (.int x :: rest))) := by
  subst hp; exact Ends.go (fun _ q => XS.i2c X.st.here X.hx rfl (X.hd hd) rfl q) k
theorem Wk.i2b (X : Wk co Z a0 EL own bytes maxL ret nm ws p l e R s m args below meth c vm0 T h locs cells slots) {x : Int32} (hd : decode bytes pc = .ok (.i2b, 1))  (hp : pc + 1 = pc') (k : Ends p e below G (T.setTop (mkF m pc' ls (.int (x.toInt8.toInt32) :: rest)))) : Ends p e below G (T.setTop (mkF m pc ls (.int x :: rest))) := by
  subst hp; exact Ends.go (fun _ q => XS.i2b X.st.here X.hx rfl (X.hd hd) rfl q) k
theorem Wk.i2l (X : Wk co Z a0 EL own bytes maxL ret nm ws p l e R s m args below meth c vm0 T h locs cells slots) {x : Int32} (hd : decode bytes pc = .ok (.i2l, 1))  (hp : pc + 1 = pc') (k : Ends p e below G (T.setTop (mkF m pc' ls (.long (x.toInt64) :: rest)))) : Ends p e below G (T.setTop (mkF m pc ls (.int x :: rest))) := by
  subst hp; exact Ends.go (fun _ q => XS.i2l X.st.here X.hx rfl (X.hd hd) rfl q) k
theorem Wk.l2i (X : Wk co Z a0 EL own bytes maxL ret nm ws p l e R s m args below meth c vm0 T h locs cells slots) {x : Int64} (hd : decode bytes pc = .ok (.l2i, 1))  (hp : pc + 1 = pc') (k : Ends p e below G (T.setTop (mkF m pc' ls (.int (x.toInt32) :: rest)))) : Ends p e below G (T.setTop (mkF m pc ls (.long x :: rest))) := by
  subst hp; exact Ends.go (fun _ q => XS.l2i X.st.here X.hx rfl (X.hd hd) rfl q) k
theorem Wk.ineg (X : Wk co Z a0 EL own bytes maxL ret nm ws p l e R s m args below meth c vm0 T h locs cells slots) {x : Int32} (hd : decode bytes pc = .ok (.ineg, 1))  (hp : pc + 1 = pc') (k : Ends p e below G (T.setTop (mkF m pc' ls (.int (-x) :: rest)))) : Ends p e below G (T.setTop (mkF m pc ls (.int x :: rest))) := by
  subst hp; exact Ends.go (fun _ q => XS.ineg X.st.here X.hx rfl (X.hd hd) rfl q) k
theorem Wk.iconst (X : Wk co Z a0 EL own bytes maxL ret nm ws p l e R s m args below meth c vm0 T h locs cells slots) {i : Int} (v : Int32) (hd : decode bytes pc = .ok (.iconst i, 1)) (hv : Int32.ofInt i = v) (hp : pc + 1 = pc') (k : Ends p e below G (T.setTop (mkF m pc' ls (.int v :: rest)))) : Ends p e below G (T.setTop (mkF m pc ls rest)) := by
  subst hp; subst hv; exact Ends.go (fun _ q => XS.iconst X.st.here X.hx rfl (X.hd hd)  q) k
theorem Wk.bipush (X : Wk co Z a0 EL own bytes maxL ret nm ws p l e R s m args below meth c vm0 T h locs cells slots) {i : Int} (v : Int32) (hd : decode bytes pc = .ok (.bipush i, 2)) (hv : (Int8.ofInt i).toInt32 = v) (hp : pc + 2 = pc') (k : Ends p e below G (T.setTop (mkF m pc' ls (.int v :: rest)))) : Ends p e below G (T.setTop (mkF m pc ls rest)) := by
  subst hp; subst hv; exact Ends.go (fun _ q => XS.bipush X.st.here X.hx rfl (X.hd hd)  q) k
theorem Wk.sipush (X : Wk co Z a0 EL own bytes maxL ret nm ws p l e R s m args below meth c vm0 T h locs cells slots) {i : Int} (v : Int32) (hd : decode bytes pc = .ok (.sipush i, 3)) (hv : (Int16.ofInt i).toInt32 = v) (hp : pc + 3 = pc') (k : Ends p e below G (T.setTop (mkF m pc' ls (.int v :: rest)))) : Ends p e below G (T.setTop (mkF m pc ls rest)) := by
  subst hp; subst hv; exact Ends.go (fun _ q => XS.sipush X.st.here X.hx rfl (X.hd hd)  q) k
theorem Wk.aconstNull (X : Wk co Z a0 EL own bytes maxL ret nm ws p l e R s m args below meth c vm0 T h locs cells slots)  (hd : decode bytes pc = .ok (.aconst_null, 1))  (hp : pc + 1 = pc') (k : Ends p e below G (T.setTop (mkF m pc' ls (.null :: rest)))) : Ends p e below G (T.setTop (mkF m pc ls rest)) := by
  subst hp; exact Ends.go (fun _ q => XS.aconstNull X.st.here X.hx rfl (X.hd hd)  q) k
theorem Wk.aloadN (X : Wk co Z a0 EL own bytes maxL ret nm ws p l e R s m args below meth c vm0 T h locs cells slots) {k : Fin 4} {v : Value} (hd : decode bytes pc = .ok (.aload_n k, 1)) (hl : ls[k.val]? = some (.val v)) (hv : v.isRef = true) (hp : pc + 1 = pc') (kk : Ends p e below G (T.setTop (mkF m pc' ls (v :: rest)))) : Ends p e below G (T.setTop (mkF m pc ls rest)) := by
  subst hp; exact Ends.go (fun _ q => XS.aloadN X.st.here X.hx rfl (X.hd hd) hl hv q) kk
theorem Wk.aload (X : Wk co Z a0 EL own bytes maxL ret nm ws p l e R s m args below meth c vm0 T h locs cells slots) {k : Nat} {v : Value} (hd : decode bytes pc = .ok (.aload k, 2)) (hl : ls[k]? = some (.val v)) (hv : v.isRef = true) (hp : pc + 2 = pc') (kk : Ends p e below G (T.setTop (mkF m pc' ls (v :: rest)))) : Ends p e below G (T.setTop (mkF m pc ls rest)) := by
  subst hp; exact Ends.go (fun _ q => XS.aload X.st.here X.hx rfl (X.hd hd) hl hv q) kk
theorem Wk.iloadN (X : Wk co Z a0 EL own bytes maxL ret nm ws p l e R s m args below meth c vm0 T h locs cells slots) {k : Fin 4} {v : Int32} (hd : decode bytes pc = .ok (.iload_n k, 1)) (hl : ls[k.val]? = some (.val (.int v))) (hp : pc + 1 = pc') (kk : Ends p e below G (T.setTop (mkF m pc' ls (.int v :: rest)))) : Ends p e below G (T.setTop (mkF m pc ls rest)) := by
  subst hp; exact Ends.go (fun _ q => XS.iloadN X.st.here X.hx rfl (X.hd hd) hl q) kk
theorem Wk.iload (X : Wk co Z a0 EL own bytes maxL ret nm ws p l e R s m args below meth c vm0 T h locs cells slots) {k : Nat} {v : Int32} (hd : decode bytes pc = .ok (.iload k, 2)) (hl : ls[k]? = some (.val (.int v))) (hp : pc + 2 = pc') (kk : Ends p e below G (T.setTop (mkF m pc' ls (.int v :: rest)))) : Ends p e below G (T.setTop (mkF m pc ls rest)) := by
  subst hp; exact Ends.go (fun _ q => XS.iload X.st.here X.hx rfl (X.hd hd) hl q) kk
theorem Wk.lloadN (X : Wk co Z a0 EL own bytes maxL ret nm ws p l e R s m args below meth c vm0 T h locs cells slots) {k : Fin 4} {v : Int64} (hd : decode bytes pc = .ok (.lload_n k, 1)) (hl : ls[k.val]? = some (.val (.long v))) (hp : pc + 1 = pc') (kk : Ends p e below G (T.setTop (mkF m pc' ls (.long v :: rest)))) : Ends p e below G (T.setTop (mkF m pc ls rest)) := by
  subst hp; exact Ends.go (fun _ q => XS.lloadN X.st.here X.hx rfl (X.hd hd) hl q) kk
theorem Wk.lload (X : Wk co Z a0 EL own bytes maxL ret nm ws p l e R s m args below meth c vm0 T h locs cells slots) {k : Nat} {v : Int64} (hd : decode bytes pc = .ok (.lload k, 2)) (hl : ls[k]? = some (.val (.long v))) (hp : pc + 2 = pc') (kk : Ends p e below G (T.setTop (mkF m pc' ls (.long v :: rest)))) : Ends p e below G (T.setTop (mkF m pc ls rest)) := by
  subst hp; exact Ends.go (fun _ q => XS.lload X.st.here X.hx rfl (X.hd hd) hl q) kk
theorem Wk.istoreN (X : Wk co Z a0 EL own bytes maxL ret nm ws p l e R s m args below meth c vm0 T h locs cells slots) {k : Fin 4} {x : Int32} (ls' : Array Slot) (hd : decode bytes pc = .ok (.istore_n k, 1)) (hl : storeLocals ls k.val (.int x) = some ls') (hp : pc + 1 = pc') (kk : Ends p e below G (T.setTop (mkF m pc' ls' rest))) : Ends p e below G (T.setTop (mkF m pc ls (.int x :: rest))) := by
  subst hp; exact Ends.go (fun _ q => XS.istoreN X.st.here X.hx rfl (X.hd hd) rfl hl q) kk
theorem Wk.istore (X : Wk co Z a0 EL own bytes maxL ret nm ws p l e R s m args below meth c vm0 T h locs cells slots) {k : Nat} {x : Int32} (ls' : Array Slot) (hd : decode bytes pc = .ok (.istore k, 2)) (hl : storeLocals ls k (.int x) = some ls') (hp : pc + 2 = pc') (kk : Ends p e below G (T.setTop (mkF m pc' ls' rest))) : Ends p e below G (T.setTop (mkF m pc ls (.int x :: rest))) := by
  subst hp; exact Ends.go (fun _ q => XS.istore X.st.here X.hx rfl (X.hd hd) rfl hl q) kk
theorem Wk.lstoreN (X : Wk co Z a0 EL own bytes maxL ret nm ws p l e R s m args below meth c vm0 T h locs cells slots) {k : Fin 4} {x : Int64} (ls' : Array Slot) (hd : decode bytes pc = .ok (.lstore_n k, 1)) (hl : storeLocals ls k.val (.long x) = some ls') (hp : pc + 1 = pc') (kk : Ends p e below G (T.setTop (mkF m pc' ls' rest))) : Ends p e below G (T.setTop (mkF m pc ls (.long x :: rest))) := by
  subst hp; exact Ends.go (fun _ q => XS.lstoreN X.st.here X.hx rfl (X.hd hd) rfl hl q) kk
theorem Wk.lstore (X : Wk co Z a0 EL own bytes maxL ret nm ws p l e R s m args below meth c vm0 T h locs cells slots) {k : Nat} {x : Int64} (ls' : Array Slot) (hd : decode bytes pc = .ok (.lstore k, 2)) (hl : storeLocals ls k (.long x) = some ls') (hp : pc + 2 = pc') (kk : Ends p e below G (T.setTop (mkF m pc' ls' rest))) : Ends p e below G (T.setTop (mkF m pc ls (.long x :: rest))) := by
  subst hp; exact Ends.go (fun _ q => XS.lstore X.st.here X.hx rfl (X.hd hd) rfl hl q) kk
theorem Wk.astoreN (X : Wk co Z a0 EL own bytes maxL ret nm ws p l e R s m args below meth c vm0 T h locs cells slots) {k : Fin 4} {x : Value} (ls' : Array Slot) (hd : decode bytes pc = .ok (.astore_n k, 1)) (hv : x.isRef = true) (hl : storeLocals ls k.val x = some ls') (hp : pc + 1 = pc') (kk : Ends p e below G (T.setTop (mkF m pc' ls' rest))) : Ends p e below G (T.setTop (mkF m pc ls (x :: rest))) := by
  subst hp; exact Ends.go (fun _ q => XS.astoreN X.st.here X.hx rfl (X.hd hd) rfl hv hl q) kk
theorem Wk.astore (X : Wk co Z a0 EL own bytes maxL ret nm ws p l e R s m args below meth c vm0 T h locs cells slots) {k : Nat} {x : Value} (ls' : Array Slot) (hd : decode bytes pc = .ok (.astore k, 2)) (hv : x.isRef = true) (hl : storeLocals ls k x = some ls') (hp : pc + 2 = pc') (kk : Ends p e below G (T.setTop (mkF m pc' ls' rest))) : Ends p e below G (T.setTop (mkF m pc ls (x :: rest))) := by
  subst hp; exact Ends.go (fun _ q => XS.astore X.st.here X.hx rfl (X.hd hd) rfl hv hl q) kk
theorem Wk.iinc (X : Wk co Z a0 EL own bytes maxL ret nm ws p l e R s m args below meth c vm0 T h locs cells slots) {k : Nat} {cst : Int} {x : Int32} (ls' : Array Slot) (hd : decode bytes pc = .ok (.iinc k cst, 3)) (hl : ls[k]? = some (.val (.int x))) (hl' : storeLocals ls k (.int (x + Int32.ofInt cst)) = some ls') (hp : pc + 3 = pc') (kk : Ends p e below G (T.setTop (mkF m pc' ls' rest))) : Ends p e below G (T.setTop (mkF m pc ls rest)) := by
  subst hp; exact Ends.go (fun _ q => XS.iinc X.st.here X.hx rfl (X.hd hd) hl hl' q) kk
theorem Wk.dup (X : Wk co Z a0 EL own bytes maxL ret nm ws p l e R s m args below meth c vm0 T h locs cells slots) {x : Value} (hd : decode bytes pc = .ok (.dup, 1)) (hc : x.category = 1) (hp : pc + 1 = pc') (k : Ends p e below G (T.setTop (mkF m pc' ls (x :: x :: rest)))) : Ends p e below G (T.setTop (mkF m pc ls (x :: rest))) := by
  subst hp; exact Ends.go (fun _ q => XS.dup X.st.here X.hx rfl (X.hd hd) rfl hc q) k
theorem Wk.pop (X : Wk co Z a0 EL own bytes maxL ret nm ws p l e R s m args below meth c vm0 T h locs cells slots) {x : Value} (hd : decode bytes pc = .ok (.pop, 1)) (hc : x.category = 1) (hp : pc + 1 = pc') (k : Ends p e below G (T.setTop (mkF m pc' ls rest))) : Ends p e below G (T.setTop (mkF m pc ls (x :: rest))) := by
  subst hp; exact Ends.go (fun _ q => XS.pop X.st.here X.hx rfl (X.hd hd) rfl hc q) k
theorem Wk.dupX1 (X : Wk co Z a0 EL own bytes maxL ret nm ws p l e R s m args below meth c vm0 T h locs cells slots) {x y : Value} (hd : decode bytes pc = .ok (.dup_x1, 1)) (hc : x.category = 1) (hc' : y.category = 1) (hp : pc + 1 = pc') (k : Ends p e below G (T.setTop (mkF m pc' ls (x :: y :: x :: rest)))) : Ends p e below G (T.setTop (mkF m pc ls (x :: y :: rest))) := by
  subst hp; exact Ends.go (fun _ q => XS.dupX1 X.st.here X.hx rfl (X.hd hd) rfl hc hc' q) k
theorem Wk.irem (X : Wk co Z a0 EL own bytes maxL ret nm ws p l e R s m args below meth c vm0 T h locs cells slots) {x y : Int32} (hd : decode bytes pc = .ok (.irem, 1)) (hy : y ≠ 0) (hp : pc + 1 = pc') (k : Ends p e below G (T.setTop (mkF m pc' ls (.int (x % y) :: rest)))) : Ends p e below G (T.setTop (mkF m pc ls (.int y :: .int x :: rest))) := by
  subst hp; exact Ends.go (fun _ q => iremM X.st X.hx rfl (X.hd hd) rfl hy q) k
theorem Wk.idiv (X : Wk co Z a0 EL own bytes maxL ret nm ws p l e R s m args below meth c vm0 T h locs cells slots) {x y : Int32} (hd : decode bytes pc = .ok (.idiv, 1)) (hy : y ≠ 0) (hp : pc + 1 = pc') (k : Ends p e below G (T.setTop (mkF m pc' ls (.int (x / y) :: rest)))) : Ends p e below G (T.setTop (mkF m pc ls (.int y :: .int x :: rest))) := by
  subst hp; exact Ends.go (fun _ q => XS.idiv X.st.here X.hx rfl (X.hd hd) rfl hy q) k
theorem Wk.goto (X : Wk co Z a0 EL own bytes maxL ret nm ws p l e R s m args below meth c vm0 T h locs cells slots)  {o : Int} (hd : decode bytes pc = .ok (.goto o, 3))  (ho : 0 ≤ (pc : Int) + o) (hp : ((pc : Int) + o).toNat = pc') (k : Ends p e below G (T.setTop (mkF m pc' ls rest))) : Ends p e below G (T.setTop (mkF m pc ls rest)) :=
  Ends.go (fun _ q => XS.goto X.st.here X.hx rfl (pc0 := pc) rfl (X.hd hd)  ho hp q) k
theorem Wk.ifY (X : Wk co Z a0 EL own bytes maxL ret nm ws p l e R s m args below meth c vm0 T h locs cells slots) {cd : ClassFile.Cond} {x : Int32} {o : Int} (hd : decode bytes pc = .ok (.ifCond cd o, 3)) (hc : ifCond.holds cd x = true) (ho : 0 ≤ (pc : Int) + o) (hp : ((pc : Int) + o).toNat = pc') (k : Ends p e below G (T.setTop (mkF m pc' ls rest))) : Ends p e below G (T.setTop (mkF m pc ls (.int x :: rest))) :=
  Ends.go (fun _ q => XS.ifYes X.st.here X.hx rfl (pc0 := pc) rfl (X.hd hd) rfl hc ho hp q) k
theorem Wk.ifN (X : Wk co Z a0 EL own bytes maxL ret nm ws p l e R s m args below meth c vm0 T h locs cells slots) {cd : ClassFile.Cond} {x : Int32} {o : Int} (hd : decode bytes pc = .ok (.ifCond cd o, 3)) (hc : ifCond.holds cd x = false) (hp : pc + 3 = pc') (k : Ends p e below G (T.setTop (mkF m pc' ls rest))) : Ends p e below G (T.setTop (mkF m pc ls (.int x :: rest))) := by
  subst hp; exact Ends.go (fun _ q => XS.ifNo X.st.here X.hx rfl (X.hd hd) rfl hc q) k
theorem Wk.icY (X : Wk co Z a0 EL own bytes maxL ret nm ws p l e R s m args below meth c vm0 T h locs cells slots) {cd : ClassFile.Cond} {x y : Int32} {o : Int} (hd : decode bytes pc = .ok (.if_icmp cd o, 3)) (hc : if_icmp.holds cd x y = true) (ho : 0 ≤ (pc : Int) + o) (hp : ((pc : Int) + o).toNat = pc') (k : Ends p e below G (T.setTop (mkF m pc' ls rest))) : Ends p e below G (T.setTop (mkF m pc ls (.int y :: .int x :: rest))) :=
  Ends.go (fun _ q => XS.icmpYes X.st.here X.hx rfl (pc0 := pc) rfl (X.hd hd) rfl hc ho hp q) k
theorem Wk.icN (X : Wk co Z a0 EL own bytes maxL ret nm ws p l e R s m args below meth c vm0 T h locs cells slots) {cd : ClassFile.Cond} {x y : Int32} {o : Int} (hd : decode bytes pc = .ok (.if_icmp cd o, 3)) (hc : if_icmp.holds cd x y = false) (hp : pc + 3 = pc') (k : Ends p e below G (T.setTop (mkF m pc' ls rest))) : Ends p e below G (T.setTop (mkF m pc ls (.int y :: .int x :: rest))) := by
  subst hp; exact Ends.go (fun _ q => XS.icmpNo X.st.here X.hx rfl (X.hd hd) rfl hc q) k
theorem Wk.nullY (X : Wk co Z a0 EL own bytes maxL ret nm ws p l e R s m args below meth c vm0 T h locs cells slots)  {o : Int} (hd : decode bytes pc = .ok (.ifnull o, 3))  (ho : 0 ≤ (pc : Int) + o) (hp : ((pc : Int) + o).toNat = pc') (k : Ends p e below G (T.setTop (mkF m pc' ls rest))) : Ends p e below G (T.setTop (mkF m pc ls (.null :: rest))) :=
  Ends.go (fun _ q => XS.ifnullYes X.st.here X.hx rfl (pc0 := pc) rfl (X.hd hd) rfl ho hp q) k
theorem Wk.nullN (X : Wk co Z a0 EL own bytes maxL ret nm ws p l e R s m args below meth c vm0 T h locs cells slots) {b : Addr} {o : Int} (hd : decode bytes pc = .ok (.ifnull o, 3))  (hp : pc + 3 = pc') (k : Ends p e below G (T.setTop (mkF m pc' ls rest))) : Ends p e below G (T.setTop (mkF m pc ls (.ref b :: rest))) := by
  subst hp; exact Ends.go (fun _ q => XS.ifnullNo X.st.here X.hx rfl (X.hd hd) rfl q) k
theorem Wk.nonY (X : Wk co Z a0 EL own bytes maxL ret nm ws p l e R s m args below meth c vm0 T h locs cells slots) {b : Addr} {o : Int} (hd : decode bytes pc = .ok (.ifnonnull o, 3))  (ho : 0 ≤ (pc : Int) + o) (hp : ((pc : Int) + o).toNat = pc') (k : Ends p e below G (T.setTop (mkF m pc' ls rest))) : Ends p e below G (T.setTop (mkF m pc ls (.ref b :: rest))) :=
  Ends.go (fun _ q => XS.ifnonnullYes X.st.here X.hx rfl (pc0 := pc) rfl (X.hd hd) rfl ho hp q) k
theorem Wk.nonN (X : Wk co Z a0 EL own bytes maxL ret nm ws p l e R s m args below meth c vm0 T h locs cells slots)  {o : Int} (hd : decode bytes pc = .ok (.ifnonnull o, 3))  (hp : pc + 3 = pc') (k : Ends p e below G (T.setTop (mkF m pc' ls rest))) : Ends p e below G (T.setTop (mkF m pc ls (.null :: rest))) := by
  subst hp; exact Ends.go (fun _ q => XS.ifnonnullNo X.st.here X.hx rfl (X.hd hd) rfl q) k
theorem Wk.acmp (X : Wk co Z a0 EL own bytes maxL ret nm ws p l e R s m args below meth c vm0 T h locs cells slots) {cd : ACond} {x y : Value} {o : Int} (hd : decode bytes pc = .ok (.if_acmp cd o, 3)) (h1 : x.isRef = true) (h2 : y.isRef = true) (same : Bool) (hq : decide (x = y) = same) (ho : 0 ≤ (pc : Int) + o) (hp : pc' = if acV cd same = true then ((pc : Int) + o).toNat else pc + 3) (k : Ends p e below G (T.setTop (mkF m pc' ls rest))) : Ends p e below G (T.setTop (mkF m pc ls (y :: x :: rest))) :=
  Ends.go (fun _ q => Jvm.RoadKit.acmp (g := mkF m pc ls (y :: x :: rest)) X.st X.hx rfl h1 h2 (pc0 := pc) rfl (X.hd hd) rfl hq ho hp q) k
theorem Wk.getF (X : Wk co Z a0 EL own bytes maxL ret nm ws p l e R s m args below meth c vm0 T h locs cells slots) {R0 O n d : String} {index : Nat} (w : (Cond.fieldLink own index R0 n d).before a0 Z = true) (via : Via Z R0 O n d) {a : Addr} {v : Value} (F : Fld Z h a O n d v) (hd : decode bytes pc = .ok (.getfield index, 3)) (hp : pc + 3 = pc') (k : ∀ T, Wk co Z a0 EL own bytes maxL ret nm ws p l e R s m args below meth c vm0 T h locs cells slots → Ends p e below G (T.setTop (mkF m pc' ls (v :: rest)))) : Ends p e below G (T.setTop (mkF m pc ls (.ref a :: rest))) := by
  subst hp
  obtain ⟨T', Y, e', st⟩ := RoadKit.getF X.st X.hx X.hZ X.hown (host := "") (Or.inl w) via X.eT F (g := mkF m pc ls (.ref a :: rest)) rfl rfl (X.hd hd)
  exact Ends.go (fun _ q => st _ q) (k _ (X.same Y e'))
theorem Wk.getS (X : Wk co Z a0 EL own bytes maxL ret nm ws p l e R s m args below meth c vm0 T h locs cells slots) {R0 O n d : String} {index : Nat} (w : (Cond.fieldLink own index R0 n d).before a0 Z = true) (via : Via Z R0 O n d) {v : Value} (F : Sta Z Z.heap O n d v) (hd : decode bytes pc = .ok (.getstatic index, 3)) (hp : pc + 3 = pc') (k : ∀ T, Wk co Z a0 EL own bytes maxL ret nm ws p l e R s m args below meth c vm0 T h locs cells slots → Ends p e below G (T.setTop (mkF m pc' ls (v :: rest)))) : Ends p e below G (T.setTop (mkF m pc ls rest)) := by
  subst hp
  obtain ⟨T', Y, e', st⟩ := RoadKit.getS (host := "") X.st X.hx X.hZ X.hown w via X.eT (F.ext X.old) (g := mkF m pc ls rest) rfl (X.hd hd)
  exact Ends.go (fun _ q => st _ q) (k _ (X.same Y e'))
theorem Wk.putF (X : Wk co Z a0 EL own bytes maxL ret nm ws p l e R s m args below meth c vm0 T h locs cells slots) {R0 O n d C : String} {index kk : Nat} (w : (Cond.fieldLink own index R0 n d).before a0 Z = true) (via : Via Z R0 O n d) {a : Addr} {v old : Value} (F : Fld Z h a O n d old) (E : Exa Z h a C) (L : (Cond.lays C O n d).before a0 Z = true ∨ ((Cond.laysFinal C O n d).before a0 Z = true ∧ own = O ∧ nm = "<init>")) (wi : (Cond.instantiable C kk).before a0 Z = true) (ty : FieldType) (hty : parseFieldDescriptor d = some ty) (hn : narrow ty v = v) (hf : fits ty v = true) (S : Safe Z EL vm0 h a) (hz : Z.heap.size ≤ a) (hk : a ∈ ws ∨ s.heap.size ≤ a) (hd : decode bytes pc = .ok (.putfield index, 3)) (hp : pc + 3 = pc') (k : ∀ T h' L, Wk co Z a0 EL own bytes maxL ret nm ws p l e R s m args below meth c vm0 T h' L cells slots → Wr h h' a (RoadKit.slotOf Z O n d) v → Ends p e below G (T.setTop (mkF m pc' ls rest))) : Ends p e below G (T.setTop (mkF m pc ls (v :: .ref a :: rest))) := by
  subst hp
  obtain ⟨T', h', Y, e', W, st⟩ := RoadKit.putF X.st X.hx X.hZ X.hown (host := "") (Or.inl w) via X.eT F E (L.imp id fun q => ⟨q.1, q.2.1, X.hnm.trans q.2.2⟩) wi hty hn hf (g := mkF m pc ls (v :: .ref a :: rest)) rfl rfl (X.hd hd)
  exact Ends.go (fun _ q => st _ q) (k _ _ _ (X.wr Y e' W S hz hk) W)
theorem Wk.newO (X : Wk co Z a0 EL own bytes maxL ret nm ws p l e R s m args below meth c vm0 T h locs cells slots) {C : String} {index n : Nat} (w : (Cond.classLink own index C).before a0 Z = true) (wi : (Cond.instantiable C n).before a0 Z = true) (wz : (Cond.initialized C).before a0 Z = true) (hd : decode bytes pc = .ok (.new index, 3)) (hc : cells + 1 ≤ R.cells) (hl : slots + n ≤ R.slots) (hp : pc + 3 = pc') (k : ∀ T h' b, b = h.size → Ext h h' → b < h'.size → Exa Z h' b C → (∀ {O nm d : String} {ty : FieldType}, Laid Z a0 C O nm d → parseFieldDescriptor d = some ty → Fld Z h' b O nm d (defaultValue ty)) → Wk co Z a0 EL own bytes maxL ret nm ws p l e R s m args below meth c vm0 T h' locs (cells + 1) (slots + n) → Ends p e below G (T.setTop (mkF m pc' ls (.ref b :: rest)))) : Ends p e below G (T.setTop (mkF m pc ls rest)) := by
  subst hp
  obtain ⟨T', h', Y, e', E, A, D, -, st⟩ := RoadKit.newO X.st X.hx X.hZ X.hown w wi wz X.eT (g := mkF m pc ls rest) rfl (X.hd hd) hc hl
  exact Ends.go (fun _ q => st _ q) (k _ _ _ rfl E A.lt A D (X.ext Y e' E))
theorem Wk.newP (X : Wk co Z a0 EL own bytes maxL ret nm ws p l e R s m args below meth c vm0 T h locs cells slots) {aty : ArrayType} (w : (Cond.arrayClass (newarray.typeOf aty)).before a0 Z = true) {n : Int32} (hd : decode bytes pc = .ok (.newarray aty, 2)) (hn : ¬ n < 0) (cap : Nat) (hcap : n.toNatClampNeg ≤ cap) (hb : cap * 8 ≤ 536870912) (hc : cells + 1 ≤ R.cells) (hl : slots + cap ≤ R.slots) (hp : pc + 2 = pc') (k : ∀ T h' b ka, b = h.size → Ext h h' → b < h'.size → Arv Z h' b ka (newarray.typeOf aty) n [] (defaultValue (newarray.typeOf aty)) → Wk co Z a0 EL own bytes maxL ret nm ws p l e R s m args below meth c vm0 T h' locs (cells + 1) (slots + cap) → Ends p e below G (T.setTop (mkF m pc' ls (.ref b :: rest)))) : Ends p e below G (T.setTop (mkF m pc ls (.int n :: rest))) := by
  subst hp
  obtain ⟨T', h', ka, Y, e', E, A, st⟩ := RoadKit.newP X.st X.hx X.hZ w X.eT (g := mkF m pc ls (.int n :: rest)) rfl (X.hd hd) rfl hn hcap hb hc hl
  exact Ends.go (fun _ q => st _ q) (k _ _ _ _ rfl E A.lt (Arv.new A hn) (X.ext Y e' E))
theorem Wk.castore (X : Wk co Z a0 EL own bytes maxL ret nm ws p l e R s m args below meth c vm0 T h locs cells slots) {a : Addr} {ka : ClassId} {z j x : Int32} {vs : List Value} {dv : Value} (A : Arv Z h a ka .char z vs dv) (hj : ¬ j < 0 ∧ j < z) (i : Nat) (hi : j.toNatClampNeg = i) (hl : i < vs.length) (hz : Z.heap.size ≤ a) (hk : a ∈ ws ∨ s.heap.size ≤ a) (hd : decode bytes pc = .ok (.castore, 1)) (hp : pc + 1 = pc') (k : ∀ T h' L, Wk co Z a0 EL own bytes maxL ret nm ws p l e R s m args below meth c vm0 T h' L cells slots → Wr h h' a j.toNatClampNeg (.int (nar .char x)) → Arv Z h' a ka .char z (vs.set i (.int (nar .char x))) dv → Ends p e below G (T.setTop (mkF m pc' ls rest))) : Ends p e below G (T.setTop (mkF m pc ls (.int x :: .int j :: .ref a :: rest))) := by
  subst hp
  have S0 := (Safe.arv (EL := EL) X.al A (by decide))
  obtain ⟨cl, Ar, q1, S1, N1, H1, G1⟩ := A
  obtain ⟨T', h', Y, e', W, st⟩ := RoadKit.stC X.st X.hx X.hZ X.eT Ar (j := j) (inb_of S1 hj) (g := mkF m pc ls (.int x :: .int j :: .ref a :: rest)) rfl rfl (X.hd hd)
  exact Ends.go (fun _ q => st _ q) (k _ _ _ (X.wr Y e' W S0 hz hk) W (Arv.set Ar q1 S1 N1 H1 G1 (fits_nar_char _) W i hi hl))
theorem Wk.bastore (X : Wk co Z a0 EL own bytes maxL ret nm ws p l e R s m args below meth c vm0 T h locs cells slots) {a : Addr} {ka : ClassId} {z j x : Int32} {vs : List Value} {dv : Value} (A : Arv Z h a ka .byte z vs dv) (hj : ¬ j < 0 ∧ j < z) (i : Nat) (hi : j.toNatClampNeg = i) (hl : i < vs.length) (S : Safe Z EL vm0 h a) (hz : Z.heap.size ≤ a) (hk : a ∈ ws ∨ s.heap.size ≤ a) (hd : decode bytes pc = .ok (.bastore, 1)) (hp : pc + 1 = pc') (k : ∀ T h' L, Wk co Z a0 EL own bytes maxL ret nm ws p l e R s m args below meth c vm0 T h' L cells slots → Wr h h' a j.toNatClampNeg (.int (nar .byte x)) → Arv Z h' a ka .byte z (vs.set i (.int (nar .byte x))) dv → Ends p e below G (T.setTop (mkF m pc' ls rest))) : Ends p e below G (T.setTop (mkF m pc ls (.int x :: .int j :: .ref a :: rest))) := by
  subst hp
  have S0 := S
  obtain ⟨cl, Ar, q1, S1, N1, H1, G1⟩ := A
  obtain ⟨T', h', Y, e', W, st⟩ := RoadKit.stB X.st X.hx X.hZ X.eT Ar (j := j) (inb_of S1 hj) (g := mkF m pc ls (.int x :: .int j :: .ref a :: rest)) rfl rfl (X.hd hd)
  exact Ends.go (fun _ q => st _ q) (k _ _ _ (X.wr Y e' W S0 hz hk) W (Arv.set Ar q1 S1 N1 H1 G1 (fits_nar_byte _) W i hi hl))
theorem Wk.caload (X : Wk co Z a0 EL own bytes maxL ret nm ws p l e R s m args below meth c vm0 T h locs cells slots) {a : Addr} {ka : ClassId} {z j v : Int32} {vs : List Value} {dv : Value} (A : Arv Z h a ka .char z vs dv) (hj : ¬ j < 0 ∧ j < z) (hv : vs.getD j.toNatClampNeg dv = .int v) (hd : decode bytes pc = .ok (.caload, 1)) (hp : pc + 1 = pc') (k : Ends p e below G (T.setTop (mkF m pc' ls (.int v :: rest)))) : Ends p e below G (T.setTop (mkF m pc ls (.int j :: .ref a :: rest))) := by
  subst hp
  obtain ⟨cl, Ar, q1, S1, N1, H1, G1⟩ := A
  have hin := inb_of S1 hj
  exact Ends.go (fun t q => X.st.caload X.hx (j := j) (v := .int v) (by rw [X.eT]; exact Ar.1) (State.isArrayOf_alike X.al Ar.2.1) Ar.2.2 hin (H1.at hin hv) (g := mkF m pc ls (.int j :: .ref a :: rest)) rfl rfl (X.hd hd) t q) k
theorem Wk.baload (X : Wk co Z a0 EL own bytes maxL ret nm ws p l e R s m args below meth c vm0 T h locs cells slots) {a : Addr} {ka : ClassId} {z j v : Int32} {vs : List Value} {dv : Value} (A : Arv Z h a ka .byte z vs dv) (hj : ¬ j < 0 ∧ j < z) (hv : vs.getD j.toNatClampNeg dv = .int v) (hd : decode bytes pc = .ok (.baload, 1)) (hp : pc + 1 = pc') (k : Ends p e below G (T.setTop (mkF m pc' ls (.int v :: rest)))) : Ends p e below G (T.setTop (mkF m pc ls (.int j :: .ref a :: rest))) := by
  subst hp
  obtain ⟨cl, Ar, q1, S1, N1, H1, G1⟩ := A
  have hin := inb_of S1 hj
  exact Ends.go (fun t q => X.st.baloadBytes X.hx (j := j) (v := .int v) (by rw [X.eT]; exact Ar.1) (State.isArrayOf_alike X.al Ar.2.1) Ar.2.2 hin (H1.at hin hv) (g := mkF m pc ls (.int j :: .ref a :: rest)) rfl rfl (X.hd hd) t q) k
theorem Wk.alen (X : Wk co Z a0 EL own bytes maxL ret nm ws p l e R s m args below meth c vm0 T h locs cells slots) {a : Addr} {ka : ClassId} {ty : FieldType} {z : Int32} {vs : List Value} {dv : Value} (A : Arv Z h a ka ty z vs dv) (hd : decode bytes pc = .ok (.arraylength, 1)) (hp : pc + 1 = pc') (k : Ends p e below G (T.setTop (mkF m pc' ls (.int z :: rest)))) : Ends p e below G (T.setTop (mkF m pc ls (.ref a :: rest))) := by
  subst hp
  obtain ⟨cl, Ar, q1, S1, N1, H1, G1⟩ := A
  refine Ends.go (fun t q => X.st.arraylength X.hx (by rw [X.eT]; exact Ar.1) (State.isArrayOf_alike X.al Ar.2.1) (g := mkF m pc ls (.ref a :: rest)) rfl rfl (X.hd hd) t ?_) k
  rw [len_of S1 N1]; exact q
theorem Wk.castY (X : Wk co Z a0 EL own bytes maxL ret nm ws p l e R s m args below meth c vm0 T h locs cells slots) {K : String} {index : Nat} (w : (Cond.classLink own index K).before a0 Z = true) {a : Addr} (F : Ins Z h a K true) (hd : decode bytes pc = .ok (.checkcast index, 3)) (hp : pc + 3 = pc') (k : ∀ T, Wk co Z a0 EL own bytes maxL ret nm ws p l e R s m args below meth c vm0 T h locs cells slots → Ends p e below G (T.setTop (mkF m pc' ls (.ref a :: rest)))) : Ends p e below G (T.setTop (mkF m pc ls (.ref a :: rest))) := by
  subst hp
  obtain ⟨T', Y, e', st⟩ := RoadKit.castY X.st X.hx X.hZ X.hown w X.eT F (g := mkF m pc ls (.ref a :: rest)) rfl rfl (X.hd hd)
  exact Ends.go (fun _ q => st _ q) (k _ (X.same Y e'))
theorem Wk.instY (X : Wk co Z a0 EL own bytes maxL ret nm ws p l e R s m args below meth c vm0 T h locs cells slots) {K : String} {index : Nat} (w : (Cond.classLink own index K).before a0 Z = true) {a : Addr} (F : Ins Z h a K true) (hd : decode bytes pc = .ok (.instanceof index, 3)) (hp : pc + 3 = pc') (k : ∀ T, Wk co Z a0 EL own bytes maxL ret nm ws p l e R s m args below meth c vm0 T h locs cells slots → Ends p e below G (T.setTop (mkF m pc' ls (.int 1 :: rest)))) : Ends p e below G (T.setTop (mkF m pc ls (.ref a :: rest))) := by
  subst hp
  obtain ⟨T', Y, e', st⟩ := RoadKit.instY X.st X.hx X.hZ X.hown w X.eT F (g := mkF m pc ls (.ref a :: rest)) rfl rfl (X.hd hd)
  exact Ends.go (fun _ q => st _ q) (k _ (X.same Y e'))
theorem Wk.instNo (X : Wk co Z a0 EL own bytes maxL ret nm ws p l e R s m args below meth c vm0 T h locs cells slots) {K C : String} {index : Nat} (w : (Cond.classLink own index K).before a0 Z = true) {a : Addr} (E : Exa Z h a C) (F : ∃ c t, Z.vm.findClass C = some c ∧ Z.vm.findClass K = some t ∧ Z.vm.assignable c t = false) (hd : decode bytes pc = .ok (.instanceof index, 3)) (hp : pc + 3 = pc') (k : ∀ T, Wk co Z a0 EL own bytes maxL ret nm ws p l e R s m args below meth c vm0 T h locs cells slots → Ends p e below G (T.setTop (mkF m pc' ls (.int 0 :: rest)))) : Ends p e below G (T.setTop (mkF m pc ls (.ref a :: rest))) := by
  subst hp
  obtain ⟨T', Y, e', st⟩ := RoadKit.instNo X.st X.hx X.hZ X.hown w X.eT E F (g := mkF m pc ls (.ref a :: rest)) rfl rfl (X.hd hd)
  exact Ends.go (fun _ q => st _ q) (k _ (X.same Y e'))
theorem Wk.instNull (X : Wk co Z a0 EL own bytes maxL ret nm ws p l e R s m args below meth c vm0 T h locs cells slots) {index : Nat} (hd : decode bytes pc = .ok (.instanceof index, 3)) (hp : pc + 3 = pc') (k : Ends p e below G (T.setTop (mkF m pc' ls (.int 0 :: rest)))) : Ends p e below G (T.setTop (mkF m pc ls (.null :: rest))) := by
  subst hp
  exact Ends.go (fun t q => X.st.instanceofNull X.hx (g := mkF m pc ls (.null :: rest)) rfl rfl (X.hd hd) t q) k
theorem Wk.ldcI (X : Wk co Z a0 EL own bytes maxL ret nm ws p l e R s m args below meth c vm0 T h locs cells slots) {index : Nat} {v : Int32} (w : (Cond.constant own index v).before a0 Z = true) (hd : decode bytes pc = .ok (.ldc index, 2)) (hp : pc + 2 = pc') (k : Ends p e below G (T.setTop (mkF m pc' ls (.int v :: rest)))) : Ends p e below G (T.setTop (mkF m pc ls rest)) := by
  subst hp
  exact Ends.go (fun t q => X.st.ldcInt X.hx X.hown (mvT X.hZ w) (g := mkF m pc ls rest) rfl (X.hd hd) t q) k
theorem Wk.ldcJ (X : Wk co Z a0 EL own bytes maxL ret nm ws p l e R s m args below meth c vm0 T h locs cells slots) {index : Nat} {v : Int64} (w : (Cond.constantLong own index v).before a0 Z = true) (hd : decode bytes pc = .ok (.ldc2_w index, 3)) (hp : pc + 3 = pc') (k : Ends p e below G (T.setTop (mkF m pc' ls (.long v :: rest)))) : Ends p e below G (T.setTop (mkF m pc ls rest)) := by
  subst hp
  exact Ends.go (fun t q => X.st.ldc2Long X.hx X.hown (mvT X.hZ w) (g := mkF m pc ls rest) rfl (X.hd hd) t q) k
theorem Wk.initO (X : Wk co Z a0 EL own bytes maxL ret nm ws p l e R s m args below meth c vm0 T h locs cells slots) {idx : Nat} (w1 : (Cond.methodLink own idx Lib.objectInit).before a0 Z = true) (w2 : (Cond.instanceMethod Lib.objectInit).before a0 Z = true) (w3 : (Cond.code Lib.objectInit ⟨#[0xb1]⟩ 1 none).before a0 Z = true) {a : Addr} (hls : ls.size = maxL) (hd : decode bytes pc = .ok (.invokespecial idx, 3)) (hfr : 1 ≤ R.frames) (hlo : (rest.map fun v => v.category).sum + 12 ≤ R.locals) (hp : pc + 3 = pc') (k : ∀ T, Wk co Z a0 EL own bytes maxL ret nm ws p l e R s m args below meth c vm0 T h locs cells slots → Ends p e below G (T.setTop (mkF m pc' ls rest))) : Ends p e below G (T.setTop (mkF m pc ls (.ref a :: rest))) := by
  subst hp
  obtain ⟨T', Y, e', st⟩ := RoadKit.initO X.st X.hx X.hZ X.hown w1 w2 w3 X.eT (g := mkF m pc ls (.ref a :: rest)) rfl (hls.trans X.hml.symm) rfl (X.hd hd) hfr (W := (rest.map fun v => v.category).sum) (by show 2 * 0 + _ ≤ _; rw [Nat.mul_zero, Nat.zero_add]; exact Nat.le_refl _) (by omega)
  exact Ends.go (fun _ q => st _ q) (k _ (X.same Y e'))
/-- ldc of a String constant of EL, read -/
theorem Wk.ldcS (X : Wk true Z a0 EL own bytes maxL ret nm ws p l e R s m args below meth c vm0 T h locs cells slots) {index : Nat} {text : String} (w : (Cond.stringLink own index text).before a0 Z = true) (wS : ∀ a ∈ Bundle.stringAtoms, a.before a0 Z = true) (hmem : (own, index) ∈ EL) {vs : List Value} {z : Int32} (ht : (∀ c ∈ text.toList, c.toNat < 256) ∧ text.toList.map (fun c => Value.int (Jvm.Lit.byteI c.toNat.toUInt16)) = vs) (hz : ¬ z < 0) (hl : z.toNatClampNeg = vs.length) (hd : decode bytes pc = .ok (.ldc index, 2)) (n : Nat) (hn : 4 * text.toList.length ≤ n) (hbig : n ≤ 536870912) (hc : cells + 2 ≤ R.cells) (hl' : slots + (n + 4) ≤ R.slots) (hp : pc + 2 = pc') (k : ∀ (T : State) (vm : Vm) (h' : Heap) (a b : Addr) (ka : ClassId), Ext h h' → CHr Z EL vm0 h vm h' → Exa Z h' a "java/lang/String" → Fld Z h' a "java/lang/String" "coder" "B" (.int 0) → Fld Z h' a "java/lang/String" "value" "[B" (.ref b) → Arv Z h' b ka .byte z vs (.int 0) → a < h'.size → b < h'.size → (∀ x, Safe Z EL vm h' x → x ≠ a ∧ x ≠ b) → Wk true Z a0 EL own bytes maxL ret nm ws p l e R s m args below meth c vm T h' locs (cells + 2) (slots + (n + 4)) → Ends p e below G (T.setTop (mkF m pc' ls (.ref a :: rest)))) : Ends p e below G (T.setTop (mkF m pc ls rest)) := by
  subst hp
  obtain ⟨k0, k1, k2⟩ := X.since
  obtain ⟨a, T', h', kk, b, ka, Y, rfl, E, hS, hk, hW, ho, x1, x2, x3, x4, x5, x6, hC, -, hsf, st⟩ := RoadKit.ldcCH X.st X.hx X.hZ X.hown w wS X.eT k1 k2 X.ew hmem X.H ht hz hl (g := mkF m pc ls rest) rfl (X.hd hd) hn hbig hc hl'
  exact Ends.go (fun _ q => st _ q) (k _ _ _ _ _ _ E hC x1 x2 x3 x4 x5 x6 hsf ⟨Y, rfl, ⟨_, hS, hk⟩, fun q => (by cases q), hW, ho, X.ch.trans hC, X.ew, X.2.2.2.2.2.2.2.2.1, ⟨Nat.le_trans X.old.1 E.1, fun a cl q => E.2 _ _ (X.old.2 _ _ q)⟩, X.fr, X.kp.ext E⟩)
/-- ldc of any String constant, opaque -/
theorem Wk.ldcO (X : Wk true Z a0 EL own bytes maxL ret nm ws p l e R s m args below meth c vm0 T h locs cells slots) {index : Nat} {text : String} (w : (Cond.stringLink own index text).before a0 Z = true) (wS : ∀ a ∈ Bundle.stringAtoms, a.before a0 Z = true) (hd : decode bytes pc = .ok (.ldc index, 2)) (n : Nat) (hn : 4 * text.toList.length ≤ n) (hbig : n ≤ 536870912) (hc : cells + 2 ≤ R.cells) (hl' : slots + (n + 4) ≤ R.slots) (hp : pc + 2 = pc') (k : ∀ (T : State) (vm : Vm) (h' : Heap) (a : Addr), Ext h h' → CHr Z EL vm0 h vm h' → Wk true Z a0 EL own bytes maxL ret nm ws p l e R s m args below meth c vm T h' locs (cells + 2) (slots + (n + 4)) → Ends p e below G (T.setTop (mkF m pc' ls (.ref a :: rest)))) : Ends p e below G (T.setTop (mkF m pc ls rest)) := by
  subst hp
  obtain ⟨k0, k1, k2⟩ := X.since
  obtain ⟨a, T', h', kk, Y, rfl, E, hS, hk, hW, ho, hC, -, st⟩ := RoadKit.ldcOH X.st X.hx X.hZ X.hown w wS X.eT k1 k2 X.ew X.H (g := mkF m pc ls rest) rfl (X.hd hd) hn hbig hc hl'
  exact Ends.go (fun _ q => st _ q) (k _ _ _ _ E hC ⟨Y, rfl, ⟨_, hS, hk⟩, fun q => (by cases q), hW, ho, X.ch.trans hC, X.ew, X.2.2.2.2.2.2.2.2.1, ⟨Nat.le_trans X.old.1 E.1, fun a cl q => E.2 _ _ (X.old.2 _ _ q)⟩, X.fr, X.kp.ext E⟩)
end Walk
/-- what a method's law says; narrow -/
def MN (l : Launch) (Z : State) (y : MethodName) (bytes : ByteArray) (maxL : Nat) (ret : Option FieldType) (xs : List Jvm.Cond) (rm : Room) (as' : Array Value) (h : Heap) (ws : List Addr) (Q : Option Value → Heap → Prop) : Prop :=
  MetFree l y (head1 (Cond.code y bytes maxL ret :: xs) rm) (fun a U => a = as' ∧ Z.Warmed39 U.vm ∧ U.heap = h) (fun _ _ _ _ _ => True) (fun _ U o U' => ∃ v L, o = .returned v ∧ (Q v U'.heap ∧ Fr Z.heap.size L ∧ Keep h U'.heap ws ∧ Ext Z.heap U'.heap) ∧ FrameEnd U o U' L rm.cells rm.slots)
/-- .. of one that may intern -/
def MCc (l : Launch) (Z : State) (EL : List (String × Nat)) (y : MethodName) (bytes : ByteArray) (maxL : Nat) (ret : Option FieldType) (xs : List Jvm.Cond) (rm : Room) (as' : Array Value) (h : Heap) (ws : List Addr) (Q : Option Value → Heap → Prop) : Prop :=
  MetFree l y (head1 (Cond.code y bytes maxL ret :: xs) rm) (fun a U => a = as' ∧ Z.Warmed39 U.vm ∧ U.heap = h ∧ CHv Z EL U.vm h) (fun _ _ _ _ _ => True) (fun _ U o U' => ∃ v L, o = .returned v ∧ (Q v U'.heap ∧ Fr Z.heap.size L ∧ Keep h U'.heap ws ∧ Ext Z.heap U'.heap) ∧ CHr Z EL U.vm U.heap U'.vm U'.heap ∧ ReturnedEndW U o U' L rm.cells rm.slots)
def GN (Z : State) (ws : List Addr) (Q : Option Value → Heap → Prop) (rm : Room) (s : State) (o : Outcome) (U' : State) : Prop :=
  ∃ v L, o = .returned v ∧ (Q v U'.heap ∧ Fr Z.heap.size L ∧ Keep s.heap U'.heap ws ∧ Ext Z.heap U'.heap) ∧ FrameEnd s o U' L rm.cells rm.slots
def GC (Z : State) (EL : List (String × Nat)) (ws : List Addr) (Q : Option Value → Heap → Prop) (rm : Room) (s : State) (o : Outcome) (U' : State) : Prop :=
  ∃ v L, o = .returned v ∧ (Q v U'.heap ∧ Fr Z.heap.size L ∧ Keep s.heap U'.heap ws ∧ Ext Z.heap U'.heap) ∧ CHr Z EL s.vm s.heap U'.vm U'.heap ∧ ReturnedEndW s o U' L rm.cells rm.slots
abbrev RV (Q : Value → Heap → Prop) : Option Value → Heap → Prop := fun v h => ∃ w, v = some w ∧ Q w h
abbrev RU (Q : Heap → Prop) : Option Value → Heap → Prop := fun v h => v = none ∧ Q h
abbrev RO (h0 : Heap) : Option Value → Heap → Prop := fun v h => v = none ∧ h = h0
abbrev RP (h0 : Heap) (Q : Value → Prop) : Option Value → Heap → Prop := fun v h => ∃ w, v = some w ∧ h = h0 ∧ Q w
theorem MN.mk {l : Launch} {Z : State} {a0 : Array Value} {y : MethodName} {bytes : ByteArray} {maxL : Nat} {ret : Option FieldType} {xs : List Jvm.Cond} {rm : Room} {as' : Array Value} {h : Heap} {ws : List Addr} {Q : Option Value → Heap → Prop} {ls0 : Array Slot} {own nm : String} (ho : y.cls = own) (hnm : y.name = nm) (pn : plainFor y = true) (O : Ext Z.heap h) (ef : ∀ m, entryFrame m as' maxL = mkF m 0 ls0 [])
    (body : ∀ (p : Program) (e : Env) (s : State) (m : MethodId) (below : List Frame) (meth : Method) (c : Code) (T : State), s.heap = h → Wk false Z a0 [] own bytes maxL ret nm ws p l e rm s m as' below meth c s.vm T h [] 0 0 → Ends p e below (GN Z ws Q rm s) (T.setTop (mkF m 0 ls0 []))) : MN l Z y bytes maxL ret xs rm as' h ws Q := by
  subst ho hnm
  refine MetFree.of_bodySF pn hisR ?_
  intro p e s m args below meth c s₁ Bd hml hP hK
  obtain ⟨rfl, hZ, rfl⟩ := hP
  have e0 : s₁.heap = s.heap := by rw [Bd.state]; rfl
  obtain ⟨s₂, o, h1, h2, h3, v, L, h4, h5, h6⟩ := body p e s m below meth c s₁ rfl ⟨Stand.of_body Bd, e0, ⟨0, (State.WarmedH.refl s).since _, Nat.zero_le _⟩, fun _ => rfl, hZ, findClass_of_methodNamed Bd.named, chrE (Nat.le_refl _), EW.nil, ⟨Bd.exec, Bd.bytes, hml, Bd.returns, (name_of_methodNamed Bd.named Bd.method).1, Bd.notSynchronized⟩, O, Fr.nil _, Keep.refl _ _⟩
  exact ⟨s₂, o, castTop (ef m) h1, h2, h3, v, L, h4, h5, h6⟩
theorem MCc.mk {l : Launch} {Z : State} {a0 : Array Value} {EL : List (String × Nat)} {y : MethodName} {bytes : ByteArray} {maxL : Nat} {ret : Option FieldType} {xs : List Jvm.Cond} {rm : Room} {as' : Array Value} {h : Heap} {ws : List Addr} {Q : Option Value → Heap → Prop} {ls0 : Array Slot} {own nm : String} (ho : y.cls = own) (hnm : y.name = nm) (pn : plainFor y = true) (O : Ext Z.heap h) (ew : EW Z a0 EL) (ef : ∀ m, entryFrame m as' maxL = mkF m 0 ls0 [])
    (body : ∀ (p : Program) (e : Env) (s : State) (m : MethodId) (below : List Frame) (meth : Method) (c : Code) (T : State), s.heap = h → Wk true Z a0 EL own bytes maxL ret nm ws p l e rm s m as' below meth c s.vm T h [] 0 0 → Ends p e below (GC Z EL ws Q rm s) (T.setTop (mkF m 0 ls0 []))) : MCc l Z EL y bytes maxL ret xs rm as' h ws Q := by
  subst ho hnm
  refine MetFree.of_bodySF pn hisR ?_
  intro p e s m args below meth c s₁ Bd hml hP hK
  obtain ⟨rfl, hZ, rfl, hC⟩ := hP
  have e0 : s₁.heap = s.heap := by rw [Bd.state]; rfl
  obtain ⟨s₂, o, h1, h2, h3, v, L, h4, h5, h6⟩ := body p e s m below meth c s₁ rfl ⟨Stand.of_body Bd, e0, ⟨0, (State.WarmedH.refl s).since _, Nat.zero_le _⟩, fun _ => rfl, hZ, findClass_of_methodNamed Bd.named, CHr.refl hC, ew, ⟨Bd.exec, Bd.bytes, hml, Bd.returns, (name_of_methodNamed Bd.named Bd.method).1, Bd.notSynchronized⟩, O, Fr.nil _, Keep.refl _ _⟩
  exact ⟨s₂, o, castTop (ef m) h1, h2, h3, v, L, h4, h5, h6⟩
section Ends2
variable {co : Bool} {Z : State} {a0 : Array Value} {EL : List (String × Nat)} {own : String} {bytes : ByteArray} {maxL : Nat} {ret : Option FieldType} {nm : String} {ws : List Addr} {p : Program} {l : Launch} {e : Env} {R : Room} {s : State} {m : MethodId} {args : Array Value} {below : List Frame} {meth : Method} {c : Code} {vm0 : Vm} {T : State} {h : Heap} {locs : List Loc} {cells slots : Nat} {G : Outcome → State → Prop} {pc pc' : Nat} {ls : Array Slot} {rest : List Value} {Q : Option Value → Heap → Prop}
theorem Wk.retN (X : Wk false Z a0 [] own bytes maxL ret nm ws p l e R s m args below meth c vm0 T h locs cells slots) {t : FieldType} {w : Value} {i : Instr} (hR : ret = some t) (hn : narrow t w = w) (hi : (i = .ireturn ∧ (t = .int ∨ t = .boolean ∨ t = .byte ∨ t = .char ∨ t = .short) ∧ ∃ z, w = .int z) ∨ (i = .lreturn ∧ t = .long ∧ ∃ z, w = .long z) ∨ (i = .dreturn ∧ t = .double ∧ ∃ z, w = .double z) ∨ (i = .freturn ∧ t = .float ∧ ∃ z, w = .float z) ∨ (i = .areturn ∧ t.isReference = true ∧ w.isRef = true)) (hd : decode bytes pc = .ok (i, 1)) (hc : cells ≤ R.cells) (hl : slots ≤ R.slots) (q : Q (some w) h) : Ends p e below (GN Z ws Q R s) (T.setTop (mkF m pc ls (w :: rest))) := by
  obtain ⟨fs, hr, hrun, hended, hW, hsame⟩ := X.st.leave (v := some w) (fun q => by rw [X.hret, hR] at q; cases q) X.hlk
  have hs : (s.setVm vm0) = s := by rw [X.nr rfl]; rfl
  rw [hs] at hW hsame
  exact ⟨_, _, retOut X.st X.hx (X.hret.trans hR) hn hi (X.hd hd) hr, hrun, hended, _, _, rfl, ⟨by rw [show (T.setFrames fs).heap = h from X.eT]; exact q, X.fr, by rw [show (T.setFrames fs).heap = h from X.eT]; exact X.kp, by rw [show (T.setFrames fs).heap = h from X.eT]; exact X.old⟩, ⟨_, rfl⟩, hW, hsame.mono hc hl⟩
theorem Wk.retAN {t : FieldType} (X : Wk false Z a0 [] own bytes maxL (some t) nm ws p l e R s m args below meth c vm0 T h locs cells slots) {w : Value} (ht : t.isReference = true) (hw : w.isRef = true) (hd : decode bytes pc = .ok (.areturn, 1)) (hc : cells ≤ R.cells) (hl : slots ≤ R.slots) (q : Q (some w) h) : Ends p e below (GN Z ws Q R s) (T.setTop (mkF m pc ls (w :: rest))) :=
  X.retN rfl (by cases t <;> first | (cases ht; done) | (rcases ref_cases hw with rfl | ⟨z, rfl⟩ <;> rfl)) (Or.inr (Or.inr (Or.inr (Or.inr ⟨rfl, ht, hw⟩)))) hd hc hl q
theorem Wk.retIN {t : FieldType} (X : Wk false Z a0 [] own bytes maxL (some t) nm ws p l e R s m args below meth c vm0 T h locs cells slots) {z : Int32} (ht : t = .int ∨ t = .boolean ∨ t = .byte ∨ t = .char ∨ t = .short) (hn : narrow t (.int z) = .int z) (hd : decode bytes pc = .ok (.ireturn, 1)) (hc : cells ≤ R.cells) (hl : slots ≤ R.slots) (q : Q (some (.int z)) h) : Ends p e below (GN Z ws Q R s) (T.setTop (mkF m pc ls (.int z :: rest))) :=
  X.retN rfl hn (Or.inl ⟨rfl, ht, z, rfl⟩) hd hc hl q
theorem Wk.retUN (X : Wk false Z a0 [] own bytes maxL none nm ws p l e R s m args below meth c vm0 T h locs cells slots) (hd : decode bytes pc = .ok (.return_, 1)) (hc : cells ≤ R.cells) (hl : slots ≤ R.slots) (q : Q none h) : Ends p e below (GN Z ws Q R s) (T.setTop (mkF m pc ls [])) := by
  obtain ⟨fs, hr, hrun, hended, hW, hsame⟩ := X.st.leave (v := none) (fun _ => rfl) X.hlk
  have hs : (s.setVm vm0) = s := by rw [X.nr rfl]; rfl
  rw [hs] at hW hsame
  exact ⟨_, _, X.st.returnOut X.hx X.hret (X.hd hd) hr, hrun, hended, _, _, rfl, ⟨by rw [show (T.setFrames fs).heap = h from X.eT]; exact q, X.fr, by rw [show (T.setFrames fs).heap = h from X.eT]; exact X.kp, by rw [show (T.setFrames fs).heap = h from X.eT]; exact X.old⟩, ⟨_, rfl⟩, hW, hsame.mono hc hl⟩
theorem Wk.retC (X : Wk true Z a0 EL own bytes maxL ret nm ws p l e R s m args below meth c vm0 T h locs cells slots) {t : FieldType} {w : Value} {i : Instr} (hR : ret = some t) (hn : narrow t w = w) (hi : (i = .ireturn ∧ (t = .int ∨ t = .boolean ∨ t = .byte ∨ t = .char ∨ t = .short) ∧ ∃ z, w = .int z) ∨ (i = .lreturn ∧ t = .long ∧ ∃ z, w = .long z) ∨ (i = .dreturn ∧ t = .double ∧ ∃ z, w = .double z) ∨ (i = .freturn ∧ t = .float ∧ ∃ z, w = .float z) ∨ (i = .areturn ∧ t.isReference = true ∧ w.isRef = true)) (hd : decode bytes pc = .ok (i, 1)) (hc : cells ≤ R.cells) (hl : slots ≤ R.slots) (q : Q (some w) h) : Ends p e below (GC Z EL ws Q R s) (T.setTop (mkF m pc ls (w :: rest))) := by
  obtain ⟨k0, k1, k2⟩ := X.since
  obtain ⟨fs, hr, hrun, hended, hE⟩ := X.st.leaveW k1 (by rw [X.eT]; exact k2) (v := some w) (fun q => by rw [X.hret, hR] at q; cases q) X.hlk
  obtain ⟨e1, e2, e3, e4⟩ := hE
  have c1 := CHv.at X.st X.hZ X.ew X.H
  exact ⟨_, _, retOut X.st X.hx (X.hret.trans hR) hn hi (X.hd hd) hr, hrun, hended, _, _, rfl, ⟨by rw [show (T.setFrames fs).heap = h from X.eT]; exact q, X.fr, by rw [show (T.setFrames fs).heap = h from X.eT]; exact X.kp, by rw [show (T.setFrames fs).heap = h from X.eT]; exact X.old⟩, by rw [show (T.setFrames fs).heap = h from X.eT]; exact X.ch.trans c1, e1, e2, e3, e4.mono hc hl⟩
theorem Wk.retAC {t : FieldType} (X : Wk true Z a0 EL own bytes maxL (some t) nm ws p l e R s m args below meth c vm0 T h locs cells slots) {w : Value} (ht : t.isReference = true) (hw : w.isRef = true) (hd : decode bytes pc = .ok (.areturn, 1)) (hc : cells ≤ R.cells) (hl : slots ≤ R.slots) (q : Q (some w) h) : Ends p e below (GC Z EL ws Q R s) (T.setTop (mkF m pc ls (w :: rest))) :=
  X.retC rfl (by cases t <;> first | (cases ht; done) | (rcases ref_cases hw with rfl | ⟨z, rfl⟩ <;> rfl)) (Or.inr (Or.inr (Or.inr (Or.inr ⟨rfl, ht, hw⟩)))) hd hc hl q
theorem Wk.retIC {t : FieldType} (X : Wk true Z a0 EL own bytes maxL (some t) nm ws p l e R s m args below meth c vm0 T h locs cells slots) {z : Int32} (ht : t = .int ∨ t = .boolean ∨ t = .byte ∨ t = .char ∨ t = .short) (hn : narrow t (.int z) = .int z) (hd : decode bytes pc = .ok (.ireturn, 1)) (hc : cells ≤ R.cells) (hl : slots ≤ R.slots) (q : Q (some (.int z)) h) : Ends p e below (GC Z EL ws Q R s) (T.setTop (mkF m pc ls (.int z :: rest))) :=
  X.retC rfl hn (Or.inl ⟨rfl, ht, z, rfl⟩) hd hc hl q
theorem Wk.retUC (X : Wk true Z a0 EL own bytes maxL none nm ws p l e R s m args below meth c vm0 T h locs cells slots) (hd : decode bytes pc = .ok (.return_, 1)) (hc : cells ≤ R.cells) (hl : slots ≤ R.slots) (q : Q none h) : Ends p e below (GC Z EL ws Q R s) (T.setTop (mkF m pc ls [])) := by
  obtain ⟨k0, k1, k2⟩ := X.since
  obtain ⟨fs, hr, hrun, hended, hE⟩ := X.st.leaveW k1 (by rw [X.eT]; exact k2) (v := none) (fun _ => rfl) X.hlk
  obtain ⟨e1, e2, e3, e4⟩ := hE
  have c1 := CHv.at X.st X.hZ X.ew X.H
  exact ⟨_, _, X.st.returnOut X.hx X.hret (X.hd hd) hr, hrun, hended, _, _, rfl, ⟨by rw [show (T.setFrames fs).heap = h from X.eT]; exact q, X.fr, by rw [show (T.setFrames fs).heap = h from X.eT]; exact X.kp, by rw [show (T.setFrames fs).heap = h from X.eT]; exact X.old⟩, by rw [show (T.setFrames fs).heap = h from X.eT]; exact X.ch.trans c1, e1, e2, e3, e4.mono hc hl⟩
/-- a place where y is called: the arguments a, rest what lies under them -/
def Site (p : Program) (l : Launch) (e : Env) (R : Room) (s : State) (m : MethodId) (args : Array Value) (below : List Frame) (meth : Method) (c : Code) (T : State) (locs : List Loc) (cells slots : Nat) (g : JFrame) (len : Nat) (y : MethodName) (a : Array Value) (rest : List Value) : Prop :=
  (∀ {W : Nat} {Pre : Pt → Array Value → Prop} {Post : Pt → Array Value → Option Value → Pt → Prop}, Back l R p e below s args y len W Pre Post → 2 * g.monitorRoom + (rest.map fun v => v.category).sum ≤ W → (∀ vm₁, s.WarmedH vm₁ → Pre ⟨T.setVm vm₁, locs, cells, slots⟩ a) →
    ∃ (v : Option Value) (vm₁ : Vm) (B : Pt), s.WarmedH vm₁ ∧ Stand p l e R s m args below meth c B.U B.locs B.cells B.slots ∧ Post ⟨T.setVm vm₁, locs, cells, slots⟩ a v B ∧ ∀ t, Steps p.tables e below (B.U.setTop { g with pc := g.pc + len, stack := v.toList ++ rest }) t → Steps p.tables e below (T.setTop g) t) ∧
  (∀ {W : Nat} {Pre : Pt → Array Value → Prop} {Post : Pt → Array Value → Option Value → Pt → Prop}, BackS l R p e below s args y len W Pre Post → 2 * g.monitorRoom + (rest.map fun v => v.category).sum ≤ W → (∀ vm₁, s.WarmedH vm₁ → Pre ⟨T.setVm vm₁, locs, cells, slots⟩ a) →
    ∃ (v : Option Value) (vm₁ : Vm) (B : Pt), s.WarmedH vm₁ ∧ Stand p l e R (s.setVm B.U.vm) m args below meth c B.U B.locs B.cells B.slots ∧ s.Since B.U.vm B.U.heap.size ∧ T.heap.size ≤ B.U.heap.size ∧ Post ⟨T.setVm vm₁, locs, cells, slots⟩ a v B ∧ ∀ t, Steps p.tables e below (B.U.setTop { g with pc := g.pc + len, stack := v.toList ++ rest }) t → Steps p.tables e below (T.setTop g) t)
theorem Wk.sStatic (X : Wk co Z a0 EL own bytes maxL ret nm ws p l e R s m args below meth c vm0 T h locs cells slots) {index : Nat} {y : MethodName} {ybytes : ByteArray} {ymaxL : Nat} {yret : Option FieldType} (w1 : (Cond.methodLink own index y).before a0 Z = true) (w2 : (Cond.static y).before a0 Z = true) (w3 : (Cond.initialized y.cls).before a0 Z = true) (w4 : (Cond.code y ybytes ymaxL yret).before a0 Z = true) (hy : y.cls ≠ "java/lang/invoke/MethodHandle" ∧ y.cls ≠ "java/lang/invoke/VarHandle") (hls : ls.size = maxL) {ps : List FieldType} {r : Option FieldType} (pd : parseMethodDescriptor y.desc = some ⟨ps, r⟩) (argsL : List Value) {st : List Value} (hlen : argsL.length = ps.length) (hst : st = argsL.reverse ++ rest) (hd : decode bytes pc = .ok (.invokestatic index, 3)) : Site p l e R (s.setVm vm0) m args below meth c T locs cells slots (mkF m pc ls st) 3 y argsL.toArray rest := by
  refine ⟨fun hK hW hpre => ?_, fun hK hW hpre => ?_⟩
  · exact Jvm.LawKit.callS X.st X.hx X.hown (mvT X.hZ w1) (mvT X.hZ w2) (mvT X.hZ w3) (mvT X.hZ w4) hy hK (g := mkF m pc ls st) rfl (hls.trans X.hml.symm) (lenOf pd hlen) hst hW (X.hd hd) hpre
  · obtain ⟨v, vm₁, B, h1, h2, h3, h4, h5, h6⟩ := callSS X.st X.hx X.hown (mvT X.hZ w1) (mvT X.hZ w2) (mvT X.hZ w3) (mvT X.hZ w4) hy hK (g := mkF m pc ls st) rfl (hls.trans X.hml.symm) (lenOf pd hlen) hst hW (X.hd hd) hpre
    exact ⟨v, vm₁, B, h1, h2, h3, h4, h5, fun t q => h6.trans q⟩
theorem Wk.sSpecial (X : Wk co Z a0 EL own bytes maxL ret nm ws p l e R s m args below meth c vm0 T h locs cells slots) {index : Nat} {y : MethodName} {ybytes : ByteArray} {ymaxL : Nat} (hy1 : y.name = "<init>") (w1 : (Cond.methodLink own index y).before a0 Z = true) (w2 : (Cond.instanceMethod y).before a0 Z = true) (w4 : (Cond.code y ybytes ymaxL none).before a0 Z = true) (hy : y.cls ≠ "java/lang/invoke/MethodHandle" ∧ y.cls ≠ "java/lang/invoke/VarHandle") (hls : ls.size = maxL) {ps : List FieldType} {r : Option FieldType} (pd : parseMethodDescriptor y.desc = some ⟨ps, r⟩) {a : Addr} (argsL : List Value) {st : List Value} (hlen : argsL.length = ps.length) (hst : st = argsL.reverse ++ .ref a :: rest) (hd : decode bytes pc = .ok (.invokespecial index, 3)) : Site p l e R (s.setVm vm0) m args below meth c T locs cells slots (mkF m pc ls st) 3 y (.ref a :: argsL).toArray rest := by
  refine ⟨fun hK hW hpre => ?_, fun hK hW hpre => ?_⟩
  · obtain ⟨v, vm₁, B, h1, h2, h5, h6⟩ := X.st.specialBack X.hx hy1 X.hown (mvT X.hZ w1) (mvT X.hZ w2) (mvT X.hZ w4) hy hK (g := mkF m pc ls st) rfl (hls.trans X.hml.symm) (Steps.refl _) (lenOf pd hlen) hst hW (X.hd hd) hpre
    exact ⟨v, vm₁, B, h1, h2, h5, fun t q => h6.trans q⟩
  · obtain ⟨v, vm₁, B, h1, h2, h3, h4, h5, h6⟩ := X.st.specialBackS X.hx hy1 X.hown (mvT X.hZ w1) (mvT X.hZ w2) (mvT X.hZ w4) hy hK (g := mkF m pc ls st) rfl (hls.trans X.hml.symm) (Steps.refl _) (lenOf pd hlen) hst hW (X.hd hd) hpre
    exact ⟨v, vm₁, B, h1, h2, h3, h4, h5, fun t q => h6.trans q⟩
theorem Wk.nf (X : Wk co Z a0 EL own bytes maxL ret nm ws p l e R s m args below meth c vm0 T h locs cells slots) {C : String} {y y' : MethodName} (w : (Cond.selects C y' y').before a0 Z = true) (hc : y'.cls = y.cls) : NotFace (s.setVm vm0) y := fun r0 h0 => by
  obtain ⟨c2, r2, m2, -, -, q3, -, kP, hkP, hkPi⟩ := Cond.selects_spec (mvT X.hZ w (args := #[]))
  have e1 := findClass_of_methodNamed h0
  have e2 := findClass_of_methodNamed q3
  rw [hc] at e2
  have e3 : m2.cls = r0.cls := Option.some.inj (e2.symm.trans e1)
  rw [e3] at hkP
  exact ⟨kP, hkP, hkPi⟩
theorem Wk.sVirtual (X : Wk co Z a0 EL own bytes maxL ret nm ws p l e R s m args below meth c vm0 T h locs cells slots) {index : Nat} {C : String} {y z : MethodName} (w1 : (Cond.methodLink own index y).before a0 Z = true) (w2 : (Cond.declares y).before a0 Z = true) (w3 : (Cond.selects C y z).before a0 Z = true) (w4 : (Cond.instanceMethod z).before a0 Z = true) (hy : y.cls ≠ "java/lang/invoke/MethodHandle" ∧ y.cls ≠ "java/lang/invoke/VarHandle") (hls : ls.size = maxL) {ps : List FieldType} {r : Option FieldType} (pd : parseMethodDescriptor y.desc = some ⟨ps, r⟩) {a : Addr} (E : Exa Z h a C) (argsL : List Value) {st : List Value} (hlen : argsL.length = ps.length) (hst : st = argsL.reverse ++ .ref a :: rest) (hd : decode bytes pc = .ok (.invokevirtual index, 3)) (nf : NotFace (s.setVm vm0) y) : Site p l e R (s.setVm vm0) m args below meth c T locs cells slots (mkF m pc ls st) 3 z (.ref a :: argsL).toArray rest := by
  obtain ⟨cq, kq, qa, qb, qc⟩ := isOf X.hZ X.eT E
  refine ⟨fun hK hW hpre => ?_, fun hK hW hpre => ?_⟩
  · obtain ⟨v, vm₁, B, h1, h2, h5, h6⟩ := X.st.virtualBack X.hx X.hown (mvT X.hZ w1) (mvT X.hZ w2) nf (mvT X.hZ w3) (mvT X.hZ w4) hy hK qa qc (g := mkF m pc ls st) rfl (hls.trans X.hml.symm) (Steps.refl _) (lenOf pd hlen) hst hW (X.hd hd) hpre
    exact ⟨v, vm₁, B, h1, h2, h5, fun t q => h6.trans q⟩
  · obtain ⟨v, vm₁, B, h1, h2, h3, h4, h5, h6⟩ := X.st.virtualBackS X.hx X.hown (mvT X.hZ w1) (mvT X.hZ w2) nf (mvT X.hZ w3) (mvT X.hZ w4) hy hK qa qc (g := mkF m pc ls st) rfl (hls.trans X.hml.symm) (Steps.refl _) (lenOf pd hlen) hst hW (X.hd hd) hpre
    exact ⟨v, vm₁, B, h1, h2, h3, h4, h5, fun t q => h6.trans q⟩
theorem Wk.callV (X : Wk co Z a0 EL own bytes maxL ret nm ws p l e R s m args below meth c vm0 T h locs cells slots) {len : Nat} {y : MethodName} {ybytes : ByteArray} {ymaxL : Nat} {yret : Option FieldType} {rm : Room} {a : Array Value} {wc : List Addr} {Q : Value → Heap → Prop} {st : List Value} (S : Site p l e R (s.setVm vm0) m args below meth c T locs cells slots (mkF m pc ls st) len y a rest) (M : MN l Z y ybytes ymaxL yret [] rm a h wc (RV Q)) (w4 : (Cond.code y ybytes ymaxL yret).before a0 Z = true) (w3 : (Cond.initialized y.cls).before a0 Z = true) (hf : rm.frames + 1 ≤ R.frames) (hl : (rest.map fun v => v.category).sum + (ymaxL + 11) + rm.locals ≤ R.locals) (hc : cells + rm.cells ≤ R.cells) (hs : slots + rm.slots ≤ R.slots) (Sf : ∀ x ∈ wc, Safe Z EL vm0 h x) (hz : ∀ x ∈ wc, Z.heap.size ≤ x) (hk : ∀ x ∈ wc, x ∈ ws ∨ s.heap.size ≤ x) (hp : pc + len = pc') (k : ∀ T h' L (v : Value), Wk co Z a0 EL own bytes maxL ret nm ws p l e R s m args below meth c vm0 T h' L (cells + rm.cells) (slots + rm.slots) → Keep h h' wc → Q v h' → Ends p e below G (T.setTop (mkF m pc' ls (v :: rest)))) : Ends p e below G (T.setTop (mkF m pc ls st)) := by
  subst hp
  obtain ⟨v, vm₁, ⟨T', L', k', n'⟩, h1, Y, ⟨Lc, ⟨⟨w, rfl, q1⟩, q2, q3, q4⟩, l1, l2, l3⟩, st1⟩ := S.1 (backOf (Q := fun v h' L => (RV Q) v h' ∧ Fr Z.heap.size L ∧ Keep h h' wc ∧ Ext Z.heap h') (W := (rest.map fun v => v.category).sum) M X.hZ w4 w3 hf hl) (by show 2 * 0 + _ ≤ _; rw [Nat.mul_zero, Nat.zero_add]; exact Nat.le_refl _) (fun vm₁ _ => ⟨rfl, X.eT, hc, hs⟩)
  dsimp only [Pt.U, Pt.locs, Pt.cells, Pt.slots] at Y l1 l2 l3 st1 q2 q3 q4 q1
  subst l1 l2 l3
  exact Ends.go st1 (k _ _ _ _ (X.keep Y rfl q3 Sf q2 hz hk) q3 q1)
theorem Wk.callU (X : Wk co Z a0 EL own bytes maxL ret nm ws p l e R s m args below meth c vm0 T h locs cells slots) {len : Nat} {y : MethodName} {ybytes : ByteArray} {ymaxL : Nat} {yret : Option FieldType} {rm : Room} {a : Array Value} {wc : List Addr} {Q : Heap → Prop} {st : List Value} (S : Site p l e R (s.setVm vm0) m args below meth c T locs cells slots (mkF m pc ls st) len y a rest) (M : MN l Z y ybytes ymaxL yret [] rm a h wc (RU Q)) (w4 : (Cond.code y ybytes ymaxL yret).before a0 Z = true) (w3 : (Cond.initialized y.cls).before a0 Z = true) (hf : rm.frames + 1 ≤ R.frames) (hl : (rest.map fun v => v.category).sum + (ymaxL + 11) + rm.locals ≤ R.locals) (hc : cells + rm.cells ≤ R.cells) (hs : slots + rm.slots ≤ R.slots) (Sf : ∀ x ∈ wc, Safe Z EL vm0 h x) (hz : ∀ x ∈ wc, Z.heap.size ≤ x) (hk : ∀ x ∈ wc, x ∈ ws ∨ s.heap.size ≤ x) (hp : pc + len = pc') (k : ∀ T h' L, Wk co Z a0 EL own bytes maxL ret nm ws p l e R s m args below meth c vm0 T h' L (cells + rm.cells) (slots + rm.slots) → Keep h h' wc → Q h' → Ends p e below G (T.setTop (mkF m pc' ls rest))) : Ends p e below G (T.setTop (mkF m pc ls st)) := by
  subst hp
  obtain ⟨v, vm₁, ⟨T', L', k', n'⟩, h1, Y, ⟨Lc, ⟨⟨rfl, q1⟩, q2, q3, q4⟩, l1, l2, l3⟩, st1⟩ := S.1 (backOf (Q := fun v h' L => (RU Q) v h' ∧ Fr Z.heap.size L ∧ Keep h h' wc ∧ Ext Z.heap h') (W := (rest.map fun v => v.category).sum) M X.hZ w4 w3 hf hl) (by show 2 * 0 + _ ≤ _; rw [Nat.mul_zero, Nat.zero_add]; exact Nat.le_refl _) (fun vm₁ _ => ⟨rfl, X.eT, hc, hs⟩)
  dsimp only [Pt.U, Pt.locs, Pt.cells, Pt.slots] at Y l1 l2 l3 st1 q2 q3 q4 q1
  subst l1 l2 l3
  exact Ends.go st1 (k _ _ _ (X.keep Y rfl q3 Sf q2 hz hk) q3 q1)
theorem Wk.callP (X : Wk co Z a0 EL own bytes maxL ret nm ws p l e R s m args below meth c vm0 T h locs cells slots) {len : Nat} {y : MethodName} {ybytes : ByteArray} {ymaxL : Nat} {yret : Option FieldType} {rm : Room} {a : Array Value} {Q : Value → Prop} {st : List Value} (S : Site p l e R (s.setVm vm0) m args below meth c T locs cells slots (mkF m pc ls st) len y a rest) (M : MN l Z y ybytes ymaxL yret [] rm a h [] (RP h Q)) (w4 : (Cond.code y ybytes ymaxL yret).before a0 Z = true) (w3 : (Cond.initialized y.cls).before a0 Z = true) (hf : rm.frames + 1 ≤ R.frames) (hl : (rest.map fun v => v.category).sum + (ymaxL + 11) + rm.locals ≤ R.locals) (hc : cells + rm.cells ≤ R.cells) (hs : slots + rm.slots ≤ R.slots) (hp : pc + len = pc') (k : ∀ T L (v : Value), Wk co Z a0 EL own bytes maxL ret nm ws p l e R s m args below meth c vm0 T h L (cells + rm.cells) (slots + rm.slots) → Q v → Ends p e below G (T.setTop (mkF m pc' ls (v :: rest)))) : Ends p e below G (T.setTop (mkF m pc ls st)) := by
  subst hp
  obtain ⟨v, vm₁, ⟨T', L', k', n'⟩, h1, Y, ⟨Lc, ⟨⟨w, rfl, e1, q1⟩, q2, q3, q4⟩, l1, l2, l3⟩, st1⟩ := S.1 (backOf (Q := fun v h' L => (RP h Q) v h' ∧ Fr Z.heap.size L ∧ Keep h h' [] ∧ Ext Z.heap h') (W := (rest.map fun v => v.category).sum) M X.hZ w4 w3 hf hl) (by show 2 * 0 + _ ≤ _; rw [Nat.mul_zero, Nat.zero_add]; exact Nat.le_refl _) (fun vm₁ _ => ⟨rfl, X.eT, hc, hs⟩)
  dsimp only [Pt.U, Pt.locs, Pt.cells, Pt.slots] at Y l1 l2 l3 st1 q2 q3 q4 e1
  subst l1 l2 l3
  exact Ends.go st1 (k _ _ _ (by have W := X.keep Y rfl q3 sf0 q2 all0 all0; rw [e1] at W; exact W) q1)
theorem Wk.callO (X : Wk co Z a0 EL own bytes maxL ret nm ws p l e R s m args below meth c vm0 T h locs cells slots) {len : Nat} {y : MethodName} {ybytes : ByteArray} {ymaxL : Nat} {yret : Option FieldType} {rm : Room} {a : Array Value}  {st : List Value} (S : Site p l e R (s.setVm vm0) m args below meth c T locs cells slots (mkF m pc ls st) len y a rest) (M : MN l Z y ybytes ymaxL yret [] rm a h [] (RO h)) (w4 : (Cond.code y ybytes ymaxL yret).before a0 Z = true) (w3 : (Cond.initialized y.cls).before a0 Z = true) (hf : rm.frames + 1 ≤ R.frames) (hl : (rest.map fun v => v.category).sum + (ymaxL + 11) + rm.locals ≤ R.locals) (hc : cells + rm.cells ≤ R.cells) (hs : slots + rm.slots ≤ R.slots) (hp : pc + len = pc') (k : ∀ T L, Wk co Z a0 EL own bytes maxL ret nm ws p l e R s m args below meth c vm0 T h L (cells + rm.cells) (slots + rm.slots) → Ends p e below G (T.setTop (mkF m pc' ls rest))) : Ends p e below G (T.setTop (mkF m pc ls st)) := by
  subst hp
  obtain ⟨v, vm₁, ⟨T', L', k', n'⟩, h1, Y, ⟨Lc, ⟨⟨rfl, e1⟩, q2, q3, q4⟩, l1, l2, l3⟩, st1⟩ := S.1 (backOf (Q := fun v h' L => (RO h) v h' ∧ Fr Z.heap.size L ∧ Keep h h' [] ∧ Ext Z.heap h') (W := (rest.map fun v => v.category).sum) M X.hZ w4 w3 hf hl) (by show 2 * 0 + _ ≤ _; rw [Nat.mul_zero, Nat.zero_add]; exact Nat.le_refl _) (fun vm₁ _ => ⟨rfl, X.eT, hc, hs⟩)
  dsimp only [Pt.U, Pt.locs, Pt.cells, Pt.slots] at Y l1 l2 l3 st1 q2 q3 q4 e1
  subst l1 l2 l3
  exact Ends.go st1 (k _ _ (by have W := X.keep Y rfl q3 sf0 q2 all0 all0; rw [e1] at W; exact W))
theorem Wk.coldV (X : Wk true Z a0 EL own bytes maxL ret nm ws p l e R s m args below meth c vm0 T h locs cells slots) {len : Nat} {y : MethodName} {ybytes : ByteArray} {ymaxL : Nat} {yret : Option FieldType} {rm : Room} {a : Array Value} {wc : List Addr} {Q : Value → Heap → Prop} {st : List Value} (S : Site p l e R (s.setVm vm0) m args below meth c T locs cells slots (mkF m pc ls st) len y a rest) (M : MCc l Z EL y ybytes ymaxL yret [] rm a h wc (RV Q)) (w4 : (Cond.code y ybytes ymaxL yret).before a0 Z = true) (w3 : (Cond.initialized y.cls).before a0 Z = true) (hf : rm.frames + 1 ≤ R.frames) (hl : (rest.map fun v => v.category).sum + (ymaxL + 11) + rm.locals ≤ R.locals) (hc : cells + rm.cells ≤ R.cells) (hs : slots + rm.slots ≤ R.slots) (hk : ∀ x ∈ wc, x ∈ ws ∨ s.heap.size ≤ x) (hp : pc + len = pc') (k : ∀ T vm h' L (v : Value), Wk true Z a0 EL own bytes maxL ret nm ws p l e R s m args below meth c vm T h' L (cells + rm.cells) (slots + rm.slots) → Keep h h' wc → CHr Z EL vm0 h vm h' → Q v h' → Ends p e below G (T.setTop (mkF m pc' ls (v :: rest)))) : Ends p e below G (T.setTop (mkF m pc ls st)) := by
  subst hp
  obtain ⟨v, vm₁, ⟨T', L', k', n'⟩, h1, Y, hS, hgr, ⟨Lc, ⟨⟨w, rfl, q1⟩, q2, q3, q4⟩, l1, l2, l3, hC⟩, st1⟩ := S.2 (backOfSH (s := s) (Q := fun v h' L => (RV Q) v h' ∧ Fr Z.heap.size L ∧ Keep h h' wc ∧ Ext Z.heap h') (W := (rest.map fun v => v.category).sum) M X.hZ w4 w3 hf hl X.ew X.H) (by show 2 * 0 + _ ≤ _; rw [Nat.mul_zero, Nat.zero_add]; exact Nat.le_refl _) (fun vm₁ _ => ⟨rfl, X.eT, hc, hs⟩)
  dsimp only [Pt.U, Pt.locs, Pt.cells, Pt.slots] at Y l1 l2 l3 st1 q1 q2 q3 q4 hS hC
  subst l1 l2 l3
  exact Ends.go st1 (k _ _ _ _ _ (X.cold Y hS hC q3 q2 q4 hk) q3 hC q1)
theorem Wk.coldU (X : Wk true Z a0 EL own bytes maxL ret nm ws p l e R s m args below meth c vm0 T h locs cells slots) {len : Nat} {y : MethodName} {ybytes : ByteArray} {ymaxL : Nat} {yret : Option FieldType} {rm : Room} {a : Array Value} {wc : List Addr} {Q : Heap → Prop} {st : List Value} (S : Site p l e R (s.setVm vm0) m args below meth c T locs cells slots (mkF m pc ls st) len y a rest) (M : MCc l Z EL y ybytes ymaxL yret [] rm a h wc (RU Q)) (w4 : (Cond.code y ybytes ymaxL yret).before a0 Z = true) (w3 : (Cond.initialized y.cls).before a0 Z = true) (hf : rm.frames + 1 ≤ R.frames) (hl : (rest.map fun v => v.category).sum + (ymaxL + 11) + rm.locals ≤ R.locals) (hc : cells + rm.cells ≤ R.cells) (hs : slots + rm.slots ≤ R.slots) (hk : ∀ x ∈ wc, x ∈ ws ∨ s.heap.size ≤ x) (hp : pc + len = pc') (k : ∀ T vm h' L, Wk true Z a0 EL own bytes maxL ret nm ws p l e R s m args below meth c vm T h' L (cells + rm.cells) (slots + rm.slots) → Keep h h' wc → CHr Z EL vm0 h vm h' → Q h' → Ends p e below G (T.setTop (mkF m pc' ls rest))) : Ends p e below G (T.setTop (mkF m pc ls st)) := by
  subst hp
  obtain ⟨v, vm₁, ⟨T', L', k', n'⟩, h1, Y, hS, hgr, ⟨Lc, ⟨⟨rfl, q1⟩, q2, q3, q4⟩, l1, l2, l3, hC⟩, st1⟩ := S.2 (backOfSH (s := s) (Q := fun v h' L => (RU Q) v h' ∧ Fr Z.heap.size L ∧ Keep h h' wc ∧ Ext Z.heap h') (W := (rest.map fun v => v.category).sum) M X.hZ w4 w3 hf hl X.ew X.H) (by show 2 * 0 + _ ≤ _; rw [Nat.mul_zero, Nat.zero_add]; exact Nat.le_refl _) (fun vm₁ _ => ⟨rfl, X.eT, hc, hs⟩)
  dsimp only [Pt.U, Pt.locs, Pt.cells, Pt.slots] at Y l1 l2 l3 st1 q1 q2 q3 q4 hS hC
  subst l1 l2 l3
  exact Ends.go st1 (k _ _ _ _ (X.cold Y hS hC q3 q2 q4 hk) q3 hC q1)
end Ends2
end Jvm.Pilot.@@N@@.Y
namespace Jvm.Pilot.@@N@@.Y
open Jvm Jvm.ClassFile Sem Op Lib Jvm.Free Jvm.Stand Jvm.LawKit Jvm.RoadKit Bundle
section Str
variable {co : Bool} {Z : State} {a0 : Array Value} {EL : List (String × Nat)} {own : String} {bytes : ByteArray} {maxL : Nat} {ret : Option FieldType} {nm : String} {ws : List Addr} {p : Program} {l : Launch} {e : Env} {R : Room} {s : State} {m : MethodId} {args : Array Value} {below : List Frame} {meth : Method} {c : Code} {vm0 : Vm} {T : State} {h h' : Heap} {locs : List Loc} {cells slots : Nat} {G : Outcome → State → Prop} {pc pc' : Nat} {ls : Array Slot} {rest : List Value} {Q : Option Value → Heap → Prop}
/-- x is a String that spells cs -/
def Str (Z : State) (h : Heap) (x : Addr) (cs : List Int32) : Prop := ∃ (t : Addr) (kb : ClassId) (cd N : Int32) (vs : List Value), Exa Z h x "java/lang/String" ∧ Fld Z h x "java/lang/String" "value" "[B" (.ref t) ∧ Fld Z h x "java/lang/String" "coder" "B" (.int cd) ∧ Arv Z h t kb .byte N vs (.int 0) ∧ StrChars.Road.CodA cs cd N vs ∧ (∀ c ∈ cs, ¬ c < 0 ∧ ¬ (65535 : Int32) < c) ∧ cs.length ≤ 4000
theorem Str.exa {x : Addr} {cs : List Int32} (S : Str Z h x cs) : Exa Z h x "java/lang/String" := by obtain ⟨_, _, _, _, _, E, -⟩ := S; exact E
theorem Str.lt {x : Addr} {cs : List Int32} (S : Str Z h x cs) : x < h.size := S.exa.lt
theorem Str.ext {x : Addr} {cs : List Int32} (S : Str Z h x cs) (E : Ext h h') : Str Z h' x cs := by
  obtain ⟨t, kb, cd, N, vs, s1, s2, s3, s4, r⟩ := S; exact ⟨t, kb, cd, N, vs, s1.ext E, s2.ext E, s3.ext E, s4.ext E, r⟩
theorem Str.keep0 {x : Addr} {cs : List Int32} (S : Str Z h x cs) (K : Keep h h' []) : Str Z h' x cs := by
  obtain ⟨t, kb, cd, N, vs, s1, s2, s3, s4, r⟩ := S; exact ⟨t, kb, cd, N, vs, s1.keep K, s2.keep K nin0, s3.keep K nin0, s4.keep K nin0, r⟩
/-- a is an object, no array -/
def Obj (Z : State) (h : Heap) (a : Addr) : Prop := ∃ (C : String) (k : Nat) (a0 : Array Value), Exa Z h a C ∧ (Cond.instantiable C k).before a0 Z = true
theorem obj {C : String} {k : Nat} {a : Addr} (E : Exa Z h a C) (w : (Cond.instantiable C k).before a0 Z = true) : Obj Z h a := ⟨C, k, a0, E, w⟩
theorem Obj.ne {a b : Addr} {k : ClassId} {ty : FieldType} {z : Int32} {vs : List Value} {d : Value} (O : Obj Z h a) (A : Arv Z h b k ty z vs d) : b ≠ a := by
  obtain ⟨C, n, a0, E, w⟩ := O; exact Ne.symm (Exa.neArv E A w)
theorem arv_ty {a b : Addr} {k1 k2 : ClassId} {t1 t2 : FieldType} {z1 z2 : Int32} {v1 v2 : List Value} {d1 d2 : Value} (A : Arv Z h a k1 t1 z1 v1 d1) (B : Arv Z h b k2 t2 z2 v2 d2) (q : t1 ≠ t2) : a ≠ b := fun e => by
  subst e
  obtain ⟨c1, ⟨a1, ⟨-, kA, hkA, compA, hkindA⟩, -⟩, -⟩ := A
  obtain ⟨c2, ⟨b1, ⟨-, kB, hkB, compB, hkindB⟩, -⟩, -⟩ := B
  cases a1.symm.trans b1
  cases hkA.symm.trans hkB
  have := hkindA.symm.trans hkindB
  injection this with _ e
  exact q e
theorem Str.keep1 {x a : Addr} {cs : List Int32} (S : Str Z h x cs) (K : Keep h h' [a]) (ne : x ≠ a) (O : Obj Z h a) : Str Z h' x cs := by
  obtain ⟨t, kb, cd, N, vs, s1, s2, s3, s4, r⟩ := S
  exact ⟨t, kb, cd, N, vs, s1.keep K, s2.keep K (ninS ne nin0), s3.keep K (ninS ne nin0), s4.keep K (ninS (O.ne s4) nin0), r⟩
theorem Str.keep2 {x a b : Addr} {cs : List Int32} {k : ClassId} {ty : FieldType} {z : Int32} {vs' : List Value} {d : Value} (S : Str Z h x cs) (K : Keep h h' [a, b]) (ne : x ≠ a) (O : Obj Z h a) (ne' : x ≠ b) (B : Arv Z h b k ty z vs' d ∧ ty ≠ .byte) : Str Z h' x cs := by
  obtain ⟨t, kb, cd, N, vs, s1, s2, s3, s4, r⟩ := S
  exact ⟨t, kb, cd, N, vs, s1.keep K, s2.keep K (ninS ne (ninS ne' nin0)), s3.keep K (ninS ne (ninS ne' nin0)), s4.keep K (ninS (O.ne s4) (ninS (Ne.symm (arv_ty B.1 s4 B.2)) nin0)), r⟩
theorem Str.wrA {x a : Addr} {cs : List Int32} {k : ClassId} {ty : FieldType} {z : Int32} {vs' : List Value} {d v : Value} {sl n : Nat} (S : Str Z h x cs) (W : Wr h h' a sl v) (A : Arv Z h a k ty z vs' d) (q : ty ≠ .byte) (wi : (Cond.instantiable "java/lang/String" n).before a0 Z = true) : Str Z h' x cs := by
  obtain ⟨t, kb, cd, N, vs, s1, s2, s3, s4, r⟩ := S
  have n1 : x ≠ a := Exa.neArv s1 A wi
  have n2 : t ≠ a := Ne.symm (arv_ty A s4 q)
  exact ⟨t, kb, cd, N, vs, s1.wr W, s2.other W (Or.inl n1), s3.other W (Or.inl n1), s4.other W n2, r⟩
theorem chr255 {x c : Int32} (q : (x &&& (255 : Int32)).toUInt32.toUInt16.toUInt32.toInt32 = c) : (¬ c < 0 ∧ ¬ (255 : Int32) < c) ∧ nar .char c = c := by
  rw [i2c_mask] at q
  have h1 := c_and x 255 (by decide)
  rw [q] at h1
  have e255 : (255 : Int32).toInt = 255 := rfl
  refine ⟨⟨fun z => ?_, fun z => ?_⟩, ?_⟩
  · rw [Int32.lt_iff_toInt_lt] at z; have : (0 : Int32).toInt = 0 := rfl; omega
  · rw [Int32.lt_iff_toInt_lt] at z; omega
  · show c.toUInt32.toUInt16.toUInt32.toInt32 = c
    rw [← q]; exact i2c_mask x
theorem narB (x : Int32) : nar .byte (x.toInt8.toInt32) = x.toInt8.toInt32 := by
  show x.toInt8.toInt32.toInt8.toInt32 = x.toInt8.toInt32
  rw [Int8.toInt8_toInt32]
theorem up16 {cs : List Int32} (h : ∀ c ∈ cs, ¬ c < 0 ∧ ¬ (255 : Int32) < c) : ∀ c ∈ cs, ¬ c < 0 ∧ ¬ (65535 : Int32) < c := fun c hc => ⟨(h c hc).1, fun q => (h c hc).2 (by rw [Int32.lt_iff_toInt_lt] at q ⊢; have e1 : (65535 : Int32).toInt = 65535 := rfl; have e2 : (255 : Int32).toInt = 255 := rfl; omega)⟩
theorem all1 {P : Int32 → Prop} {c : Int32} (h : P c) : ∀ d ∈ [c], P d := fun d hd => by cases List.mem_singleton.mp hd; exact h
theorem allC {P : Int32 → Prop} {c : Int32} {cs : List Int32} (h : P c) (r : ∀ d ∈ cs, P d) : ∀ d ∈ c :: cs, P d := fun d hd => by
  rcases List.mem_cons.mp hd with rfl | hd
  · exact h
  · exact r d hd
theorem allN {P : Int32 → Prop} : ∀ d ∈ ([] : List Int32), P d := fun d hd => nomatch hd
theorem eqI_v {args : Array Value} {t : Term} {v : Int32} (h : (Cond.eq t (.int v)).value args Z none Z [] = some true) : t.eval args Z none [] Z = some (.int v) := by
  obtain ⟨x, y, e1, e2, -, k2⟩ := cmp_v (Or.inl h)
  have e3 : (Term.int v).eval args Z none [] Z = some (.int v) := Term.int_eval v
  cases e2.symm.trans e3
  obtain ⟨z, rfl⟩ := k2
  have := gotT (Cond.eq_ints e1 e3) h
  rw [e1, this]
theorem noInst {C K : String} {n : Nat} (w : (Cond.superclass C "java/lang/Object").before a0 Z = true) (wo : (Cond.noSuperclass "java/lang/Object").before a0 Z = true) (wk : (Cond.instantiable K n).before a0 Z = true) (q1 : C ≠ K) (q2 : "java/lang/Object" ≠ K) : ∃ c t, Z.vm.findClass C = some c ∧ Z.vm.findClass K = some t ∧ Z.vm.assignable c t = false := by
  obtain ⟨t, kt, g0, g2, g5, g6, -⟩ := Cond.instantiable_spec wk
  have g7 : kt.isInterface = false := (Bool.or_eq_false_iff.mp g6).1
  obtain ⟨co, ko, o1, o2, o3, -, -⟩ := Cond.noSuperclass_spec wo
  have nO : NS Z "java/lang/Object" K := by
    have ne := ids_ne o1 g0 q2
    refine ⟨co, t, o1, g0, fun fuel => ?_⟩
    cases fuel with
    | zero => rfl
    | succ f => simp [Vm.isSubclassAux, ne, o2, o3]
  obtain ⟨c, t', h0, g0', n3⟩ := NS.step w nO q1
  cases g0.symm.trans g0'
  obtain ⟨p, k, kp, h1, h2, h3, h4, h5, -, h7⟩ := Cond.superclass_spec h0 w
  have ne := ids_ne h0 g0 q1
  refine ⟨c, t, h0, g0, ?_⟩
  show Z.vm.assignableAux (255 + 1) c t = false
  simp [Vm.assignableAux, ne, h2, g2, h5, g5, g7, Vm.isSubclass, n3]
/-- new String(chars): one to 4,000 chars, each 0 to 255 -/
theorem Wk.newStr (X : Wk co Z a0 EL own bytes maxL ret nm ws p l e R s m args below meth c vm0 T h locs cells slots) {st : List Value} {x b : Addr} {kC : ClassId} {cs : List Int32} {d c0 : Value} {z N : Int32} {n : Nat} (S : Site p l e R (s.setVm vm0) m args below meth c T locs cells slots (mkF m pc ls st) 3 (⟨"java/lang/String", "<init>", "([C)V"⟩ : MethodName) #[.ref x, .ref b] rest) (hws : ∀ d ∈ StrChars.Road.words, d.before a0 Z = true) {kI : Nat} (wi : (Cond.instantiable "java/lang/String" kI).before a0 Z = true) (Ex : Exa Z h x "java/lang/String") (V : Fld Z h x "java/lang/String" "value" "[B" .null) (C : Fld Z h x "java/lang/String" "coder" "B" c0) (K : Arv Z h b kC .char N (cs.map Value.int) d) (O2 : Sta Z Z.heap "java/lang/String" "COMPACT_STRINGS" "Z" (.int z)) (hz : ¬ z = 0) (hn : cs.length = n) (hN : N = Int32.ofNat n) (l0 : 0 < n) (l2 : n ≤ 4000) (hp : ∀ c ∈ cs, ¬ c < 0 ∧ ¬ (255 : Int32) < c) (hfr : 4 ≤ R.frames) (hlo : (rest.map fun v => v.category).sum + 65 ≤ R.locals) (hc : cells + 1 ≤ R.cells) (hs : slots + n ≤ R.slots) (zx : Z.heap.size ≤ x) (hk : x ∈ ws ∨ s.heap.size ≤ x) (hpc : pc + 3 = pc') (k : ∀ T h' L, Wk co Z a0 EL own bytes maxL ret nm ws p l e R s m args below meth c vm0 T h' L (cells + 1) (slots + n) → Keep h h' [x] → Str Z h' x cs → Ends p e below G (T.setTop (mkF m pc' ls rest))) : Ends p e below G (T.setTop (mkF m pc ls st)) := by
  subst hpc
  obtain ⟨v, vm₁, ⟨T', L', k', n'⟩, h1, Y, ⟨Lc, ⟨rfl, q2, q3, q4, q5, t, kb, -, -, -, q6, q7⟩, l1, l3, l4⟩, st1⟩ := S.1 (StrChars.Road.backV (W := (rest.map fun v => v.category).sum) X.hZ hws wi (n0 := Z.heap.size) zx X.old.1 Ex V C K (O2.ext X.old) hz hn hN l0 l2 hp rfl hfr hlo) (by show 2 * 0 + _ ≤ _; rw [Nat.mul_zero, Nat.zero_add]; exact Nat.le_refl _) (fun vm₁ _ => ⟨rfl, X.eT, hc, hs⟩)
  dsimp only [Pt.U, Pt.locs, Pt.cells, Pt.slots] at Y l1 l3 l4 st1 q2 q3 q4 q5 q6 q7
  subst l1 l3 l4
  have hcod : StrChars.Road.CodA cs 0 N ((cs.map fun c => c.toInt8.toInt32).map Value.int) := by rw [hN]; exact StrChars.Road.codOf hn fun c hc => (hp c hc).2
  exact Ends.go st1 (k _ _ _ (X.keep Y rfl q3 (sfS (Safe.blank X.al Ex wi V) sf0) q2 (allS zx all0) (allS hk all0)) q3 ⟨t, kb, 0, N, _, q4, q6, q5, q7, hcod, up16 hp, by omega⟩)
end Str
end Jvm.Pilot.@@N@@.Y
namespace Jvm.Pilot.@@N@@.Y
open Jvm Jvm.ClassFile Sem Op Lib Jvm.Free Jvm.Stand Jvm.LawKit Jvm.RoadKit Bundle
section Refs
variable {co : Bool} {Z : State} {a0 : Array Value} {EL : List (String × Nat)} {own : String} {bytes : ByteArray} {maxL : Nat} {ret : Option FieldType} {nm : String} {ws : List Addr} {p : Program} {l : Launch} {e : Env} {R : Room} {s : State} {m : MethodId} {args : Array Value} {below : List Frame} {meth : Method} {c : Code} {vm0 : Vm} {T : State} {h h' : Heap} {locs : List Loc} {cells slots : Nat} {G : Outcome → State → Prop} {pc pc' : Nat} {ls : Array Slot} {rest : List Value} {Q : Option Value → Heap → Prop}
/-- mr is the class C's mirror -/
def Mrr (Z : State) (C : String) (mr : Addr) : Prop := ∃ (c : ClassId) (k : Class), Z.vm.findClass C = some c ∧ Z.vm.classes[c]? = some k ∧ k.mirror = some mr
/-- an Object[] whose length reads 0 -/
def Emp (Z : State) (h : Heap) (a : Addr) : Prop := ∃ c, Arr Z h a c (.object "java/lang/Object") ∧ c.slots.size.toInt32 = 0
theorem Emp.ext {a : Addr} (A : Emp Z h a) (E : Ext h h') : Emp Z h' a := by obtain ⟨c, q, r⟩ := A; exact ⟨c, Arr.ext E q, r⟩
theorem Emp.lt {a : Addr} (A : Emp Z h a) : a < h.size := by obtain ⟨c, q, r⟩ := A; exact q.lt
theorem Emp.start {args : Array Value} {t : Term} {a : Addr} (ev : t.eval args Z none [] Z = some (.ref a)) (hx : (Cond.arrayOf t (.object "java/lang/Object")).before args Z = true) (hl : (Cond.eq (.length t) (.int 0)).before args Z = true) : Emp Z Z.heap a := by
  obtain ⟨c, A⟩ := Arr.start ev (Cond.before_iff.mp hx)
  obtain ⟨b, cell, e1, e2, e3⟩ := Term.length_spec (eqI_v (Cond.before_iff.mp hl))
  cases ev.symm.trans e1
  have e4 : Z.arrayAt? a = some c := IntBox.arrayAt_of A.1 A.2.1 A.2.2
  cases e4.symm.trans e2
  injection e3 with e3
  exact ⟨c, A, e3.symm⟩
theorem fld_ev {args : Array Value} {t : Term} {C n d : String} {v : Value} {a : Addr} (e : t.eval args Z none [] Z = some (.ref a)) (h : (Term.field t C n d).eval args Z none [] Z = some v) : Z.fieldOf? a C n d = some v := by
  simp only [Term.eval] at h
  rw [e] at h
  simpa using h
theorem Wk.alen0 (X : Wk co Z a0 EL own bytes maxL ret nm ws p l e R s m args below meth c vm0 T h locs cells slots) {a : Addr} (A : Emp Z h a) (hd : decode bytes pc = .ok (.arraylength, 1)) (hp : pc + 1 = pc') (k : Ends p e below G (T.setTop (mkF m pc' ls (.int 0 :: rest)))) : Ends p e below G (T.setTop (mkF m pc ls (.ref a :: rest))) := by
  subst hp
  obtain ⟨cl, Ar, q0⟩ := A
  refine Ends.go (fun t q => X.st.arraylength X.hx (by rw [X.eT]; exact Ar.1) (State.isArrayOf_alike X.al Ar.2.1) (g := mkF m pc ls (.ref a :: rest)) rfl rfl (X.hd hd) t ?_) k
  rw [q0]; exact q
theorem Wk.newR (X : Wk co Z a0 EL own bytes maxL ret nm ws p l e R s m args below meth c vm0 T h locs cells slots) {C ad : String} {index : Nat} {n : Int32} (w1 : (Cond.classLink own index C).before a0 Z = true) (w2 : (Cond.arrayOver (.object C)).before a0 Z = true) (had : "[" ++ (FieldType.object C).toString = ad) (hd : decode bytes pc = .ok (.anewarray index, 3)) (hn : ¬ n < 0) (cap : Nat) (hcap : n.toNatClampNeg ≤ cap) (hb : cap * 8 ≤ 536870912) (hc : cells + 1 ≤ R.cells) (hl : slots + cap ≤ R.slots) (hp : pc + 3 = pc') (k : ∀ T h' b ka, b = h.size → Ext h h' → b < h'.size → Arv Z h' b ka (.object C) n [] .null → Exa Z h' b ad → Ovr Z ka C → Wk co Z a0 EL own bytes maxL ret nm ws p l e R s m args below meth c vm0 T h' locs (cells + 1) (slots + cap) → Ends p e below G (T.setTop (mkF m pc' ls (.ref b :: rest)))) : Ends p e below G (T.setTop (mkF m pc ls (.int n :: rest))) := by
  subst hp
  obtain ⟨T', h', ka, Y, e', Ex, A, Ea, O, st⟩ := RoadKit.newRE X.st X.hx X.hZ X.hown w1 w2 X.eT (g := mkF m pc ls (.int n :: rest)) rfl (X.hd hd) rfl hn hcap hb hc hl had
  exact Ends.go (fun _ q => st _ q) (k _ _ _ _ rfl Ex A.lt (Arv.new A hn) Ea O (X.ext Y e' Ex))
theorem Wk.aastore (X : Wk co Z a0 EL own bytes maxL ret nm ws p l e R s m args below meth c vm0 T h locs cells slots) {a y : Addr} {ka : ClassId} {C D : String} {z j : Int32} {vs : List Value} {dv : Value} (A : Arv Z h a ka (.object D) z vs dv) (O : Ovr Z ka C) (I : Ins Z h y C true) (hj : ¬ j < 0 ∧ j < z) (i : Nat) (hi : j.toNatClampNeg = i) (hl : i < vs.length) (hz : Z.heap.size ≤ a) (hk : a ∈ ws ∨ s.heap.size ≤ a) (hd : decode bytes pc = .ok (.aastore, 1)) (hp : pc + 1 = pc') (k : ∀ T h' L, Wk co Z a0 EL own bytes maxL ret nm ws p l e R s m args below meth c vm0 T h' L cells slots → Wr h h' a j.toNatClampNeg (.ref y) → Arv Z h' a ka (.object D) z (vs.set i (.ref y)) dv → Ends p e below G (T.setTop (mkF m pc' ls rest))) : Ends p e below G (T.setTop (mkF m pc ls (.ref y :: .int j :: .ref a :: rest))) := by
  subst hp
  have S0 : Safe Z EL vm0 h a := Safe.arv X.al A (by intro q; cases q)
  obtain ⟨cl, Ar, q1, S1, N1, H1, G1⟩ := A
  obtain ⟨T', h', Y, e', W, st⟩ := RoadKit.stR X.st X.hx X.hZ X.eT Ar (j := j) (inb_of S1 hj) rfl (Sto.ofV Ar q1 O I) (g := mkF m pc ls (.ref y :: .int j :: .ref a :: rest)) rfl rfl (X.hd hd)
  exact Ends.go (fun _ q => st _ q) (k _ _ _ (X.wr Y e' W S0 hz hk) W (Arv.set Ar q1 S1 N1 H1 G1 rfl W i hi hl))
theorem Wk.aaload (X : Wk co Z a0 EL own bytes maxL ret nm ws p l e R s m args below meth c vm0 T h locs cells slots) {a : Addr} {ka : ClassId} {C : String} {z j : Int32} {v : Value} {vs : List Value} {dv : Value} (A : Arv Z h a ka (.object C) z vs dv) (hj : ¬ j < 0 ∧ j < z) (hv : vs.getD j.toNatClampNeg dv = v) (hd : decode bytes pc = .ok (.aaload, 1)) (hp : pc + 1 = pc') (k : Ends p e below G (T.setTop (mkF m pc' ls (v :: rest)))) : Ends p e below G (T.setTop (mkF m pc ls (.int j :: .ref a :: rest))) := by
  subst hp
  obtain ⟨cl, Ar, q1, S1, N1, H1, G1⟩ := A
  have hin := inb_of S1 hj
  exact Ends.go (fun t q => X.st.aaload X.hx (j := j) (v := v) (by rw [X.eT]; exact Ar.1) (State.isArrayOf_alike X.al Ar.2.1) rfl Ar.2.2 hin (H1.at hin hv) (g := mkF m pc ls (.int j :: .ref a :: rest)) rfl rfl (X.hd hd) t q) k
theorem Wk.ldcM (X : Wk co Z a0 EL own bytes maxL ret nm ws p l e R s m args below meth c vm0 T h locs cells slots) {C : String} {index : Nat} {mr : Addr} (w : (Cond.classLink own index C).before a0 Z = true) (M : Mrr Z C mr) (hd : decode bytes pc = .ok (.ldc index, 2)) (hp : pc + 2 = pc') (k : ∀ T, Wk co Z a0 EL own bytes maxL ret nm ws p l e R s m args below meth c vm0 T h locs cells slots → Ends p e below G (T.setTop (mkF m pc' ls (.ref mr :: rest)))) : Ends p e below G (T.setTop (mkF m pc ls rest)) := by
  subst hp
  obtain ⟨cc, kc, m1, m2, m3⟩ := M
  obtain ⟨k', q, ek⟩ := X.al.2.2 _ _ m2
  have hev : (Term.mirror C).eval args (s.setVm vm0) none [] (s.setVm vm0) = some (.ref mr) := by
    have f1 : vm0.findClass C = some cc := by rw [X.al.findClass]; exact m1
    have f2 : vm0.classes[cc]? = some k' := q
    have f3 : k'.mirror = some mr := by rw [ek]; exact m3
    simp [Term.eval, f1, f2, f3]
  obtain ⟨vm', Y, st⟩ := X.st.ldcMirror X.hx X.hown (mvT X.hZ w) hev (g := mkF m pc ls rest) rfl (X.hd hd)
  exact Ends.go (fun _ q => st _ q) (k _ (X.same Y X.eT))
theorem Wk.gcls (X : Wk co Z a0 EL own bytes maxL ret nm ws p l e R s m args below meth c vm0 T h locs cells slots) {C : String} {index : Nat} (w1 : (Cond.methodLink own index ⟨"java/lang/Object", "getClass", "()Ljava/lang/Class;"⟩).before a0 Z = true) (w2 : (Cond.declares ⟨"java/lang/Object", "getClass", "()Ljava/lang/Class;"⟩).before a0 Z = true) (w4 : (Cond.selects C ⟨"java/lang/Object", "getClass", "()Ljava/lang/Class;"⟩ ⟨"java/lang/Object", "getClass", "()Ljava/lang/Class;"⟩).before a0 Z = true) (w5 : (Cond.instanceMethod ⟨"java/lang/Object", "getClass", "()Ljava/lang/Class;"⟩).before a0 Z = true) (w6 : (Cond.native ⟨"java/lang/Object", "getClass", "()Ljava/lang/Class;"⟩).before a0 Z = true) {a mr : Addr} (Ea : Exa Z h a C) (M : Mrr Z C mr) (hls : ls.size = maxL) (hd : decode bytes pc = .ok (.invokevirtual index, 3)) (hf : 1 ≤ R.frames) (hl : (rest.map fun v => v.category).sum + (nativeFrameWords "java/lang/Object" "getClass" 1 + 11) ≤ R.locals) (hp : pc + 3 = pc') (k : ∀ T, Wk co Z a0 EL own bytes maxL ret nm ws p l e R s m args below meth c vm0 T h locs cells slots → Ends p e below G (T.setTop (mkF m pc' ls (.ref mr :: rest)))) : Ends p e below G (T.setTop (mkF m pc ls (.ref a :: rest))) := by
  subst hp
  obtain ⟨cB, kB, i1, i2, i3⟩ := isOf X.hZ X.eT Ea
  obtain ⟨cc, kc, m1, m2, m3⟩ := M
  have i1' : Z.vm.findClass C = some cB := by rw [← X.hZ.alike.findClass]; exact i1
  cases i1'.symm.trans m1
  obtain ⟨k', q, ek⟩ := X.hZ.alike.2.2 _ _ m2
  obtain ⟨vm', Y, st⟩ := X.st.getClassOf X.hx X.hown (mvT X.hZ w1) (mvT X.hZ w2) (notFace_of_selects (args := #[]) (mvT X.hZ w4)) (mvT X.hZ w4) (mvT X.hZ w5) (mvT X.hZ w6) i1 i3 q (by rw [ek]; exact m3) (g := mkF m pc ls (.ref a :: rest)) rfl (hls.trans X.hml.symm) rfl (X.hd hd) hf (by show 2 * 0 + _ + _ ≤ _; rw [Nat.mul_zero, Nat.zero_add]; exact hl)
  exact Ends.go (fun _ q => st _ q) (k _ (X.same Y X.eT))
theorem Wk.gclsI (X : Wk co Z a0 EL own bytes maxL ret nm ws p l e R s m args below meth c vm0 T h locs cells slots) {C : String} {index count : Nat} {xi : MethodName} (w1 : (Cond.methodLink own index xi).before a0 Z = true) (w2 : (Cond.declares ⟨"java/lang/Object", "getClass", "()Ljava/lang/Class;"⟩).before a0 Z = true) (w3 : (Cond.interfaceMethod xi.cls "java/lang/Object" xi.name xi.desc).before a0 Z = true) (w4 : (Cond.selects C xi ⟨"java/lang/Object", "getClass", "()Ljava/lang/Class;"⟩).before a0 Z = true) (w5 : (Cond.instanceMethod ⟨"java/lang/Object", "getClass", "()Ljava/lang/Class;"⟩).before a0 Z = true) (w6 : (Cond.publicMethod ⟨"java/lang/Object", "getClass", "()Ljava/lang/Class;"⟩).before a0 Z = true) (w7 : (Cond.unhidden C xi.name xi.desc).before a0 Z = true) (w8 : (Cond.castable C xi.cls).before a0 Z = true) (w9 : (Cond.native ⟨"java/lang/Object", "getClass", "()Ljava/lang/Class;"⟩).before a0 Z = true) (hy : xi.cls ≠ "java/lang/invoke/MethodHandle" ∧ xi.cls ≠ "java/lang/invoke/VarHandle") (hxo : xi.cls ≠ "java/lang/Object") (hnm : xi.name = "getClass") (hds : xi.desc = "()Ljava/lang/Class;") {a mr : Addr} (Ea : Exa Z h a C) (M : Mrr Z C mr) (hls : ls.size = maxL) (hd : decode bytes pc = .ok (.invokeinterface index count, 5)) (hf : 1 ≤ R.frames) (hl : (rest.map fun v => v.category).sum + (nativeFrameWords "java/lang/Object" "getClass" 1 + 11) ≤ R.locals) (hp : pc + 5 = pc') (k : ∀ T, Wk co Z a0 EL own bytes maxL ret nm ws p l e R s m args below meth c vm0 T h locs cells slots → Ends p e below G (T.setTop (mkF m pc' ls (.ref mr :: rest)))) : Ends p e below G (T.setTop (mkF m pc ls (.ref a :: rest))) := by
  subst hp
  obtain ⟨cB, kB, i1, i2, i3⟩ := isOf X.hZ X.eT Ea
  obtain ⟨cc, kc, m1, m2, m3⟩ := M
  have i1' : Z.vm.findClass C = some cB := by rw [← X.hZ.alike.findClass]; exact i1
  cases i1'.symm.trans m1
  obtain ⟨k', q, ek⟩ := X.hZ.alike.2.2 _ _ m2
  cases i2.symm.trans q
  obtain ⟨vm', Y, st⟩ := X.st.getClassOfI X.hx X.hown (mvT X.hZ w1) (mvT X.hZ w2) (Jvm.Free.ULB.iface_rides X.hZ.alike w3) (mvT X.hZ w4) (mvT X.hZ w5) (mvT X.hZ w6) (mvT X.hZ w7) (mvT X.hZ w8) (mvT X.hZ w9) hy hxo hnm hds i1 i2 i3 (by rw [ek]; exact m3) (g := mkF m pc ls (.ref a :: rest)) rfl (hls.trans X.hml.symm) rfl (X.hd hd) hf (by show 2 * 0 + _ + _ ≤ _; rw [Nat.mul_zero, Nat.zero_add]; exact hl)
  exact Ends.go (fun _ q => st _ q) (k _ (X.same Y X.eT))
/-- System.arraycopy between two known arrays; b is the one written -/
theorem Wk.acopy (X : Wk co Z a0 EL own bytes maxL ret nm ws p l e R s m args below meth c vm0 T h locs cells slots) {index : Nat} (w1 : (Cond.methodLink own index Jvm.Stand.acN).before a0 Z = true) (w2 : (Cond.native Jvm.Stand.acN).before a0 Z = true) (w3 : (Cond.static Jvm.Stand.acN).before a0 Z = true) (w4 : (Cond.initialized "java/lang/System").before a0 Z = true) {a b : Addr} {k1 k2 : ClassId} {ty ty' : FieldType} {z z' sp dp nn : Int32} {vs vd us : List Value} {dv dd : Value} (A : Arv Z h a k1 ty z vs dv) (B : Arv Z h b k2 ty' z' vd dd) (hty : (ty = ty' ∧ refKind ty = false) ∨ (refKind ty = true ∧ refKind ty' = true ∧ StoL Z h b us)) (h1 : ¬ sp < 0) (h2 : ¬ dp < 0) (h3 : ¬ nn < 0) (h4 : sp.toNatClampNeg + nn.toNatClampNeg ≤ z.toNatClampNeg) (h5 : dp.toNatClampNeg + nn.toNatClampNeg ≤ z'.toNatClampNeg) (hus : us = (List.range nn.toNatClampNeg).map fun i => vs.getD (sp.toNatClampNeg + i) dv) (hlen : dp.toNatClampNeg + nn.toNatClampNeg ≤ vd.length) (S : Safe Z EL vm0 h b) (hz : Z.heap.size ≤ b) (hk : b ∈ ws ∨ s.heap.size ≤ b) (hls : ls.size = maxL) (hd : decode bytes pc = .ok (.invokestatic index, 3)) (hf : 1 ≤ R.frames) (hl : (rest.map fun v => v.category).sum + (nativeFrameWords "java/lang/System" "arraycopy" 5 + 11) ≤ R.locals) (hp : pc + 3 = pc') (k : ∀ T h' L, Wk co Z a0 EL own bytes maxL ret nm ws p l e R s m args below meth c vm0 T h' L cells slots → Keep h h' [b] → Arv Z h' b k2 ty' z' (vd.take dp.toNatClampNeg ++ us ++ vd.drop (dp.toNatClampNeg + nn.toNatClampNeg)) dd → Ends p e below G (T.setTop (mkF m pc' ls rest))) : Ends p e below G (T.setTop (mkF m pc ls (.int nn :: .int dp :: .ref b :: .int sp :: .ref a :: rest))) := by
  subst hp
  obtain ⟨T', h', L, Y, e', N, K, B', st⟩ := RoadKit.cpA X.st X.hx X.hZ X.hown w1 w2 w3 w4 X.eT A B hty h1 h2 h3 h4 h5 hus hlen X.fr hz (g := mkF m pc ls (.int nn :: .int dp :: .ref b :: .int sp :: .ref a :: rest)) rfl (hls.trans X.hml.symm) rfl (X.hd hd) hf (W := (rest.map fun v => v.category).sum) (by show 2 * 0 + _ ≤ _; rw [Nat.mul_zero, Nat.zero_add]; exact Nat.le_refl _) hl
  obtain ⟨k0, k3, k4⟩ := X.since
  have O : Old Z Z.heap.size h' := Old.keep ⟨rfl, X.old⟩ K (allS hz all0)
  exact Ends.go (fun _ q => st _ q) (k _ _ _ ⟨Y, e', ⟨k0, k3, Nat.le_trans k4 K.1⟩, X.nr, X.hZ, X.hown, X.ch.trans (CHr.keep K (sfS S sf0) X.H), X.ew, X.2.2.2.2.2.2.2.2.1, O.2, N, X.kp.trans K (allS hk all0)⟩ K B')
theorem Wk.sPrivate (X : Wk co Z a0 EL own bytes maxL ret nm ws p l e R s m args below meth c vm0 T h locs cells slots) {index : Nat} {C D : String} {y : MethodName} {ybytes : ByteArray} {ymaxL : Nat} {yret : Option FieldType} (w1 : (Cond.methodLink own index y).before a0 Z = true) (w2 : (Cond.instanceMethod y).before a0 Z = true) (w3 : (Cond.selects D y y).before a0 Z = true) (w4 : (Cond.privateMethod y).before a0 Z = true) (w5 : (Cond.code y ybytes ymaxL yret).before a0 Z = true) (hy : y.cls ≠ "java/lang/invoke/MethodHandle" ∧ y.cls ≠ "java/lang/invoke/VarHandle") (hls : ls.size = maxL) {ps : List FieldType} {r : Option FieldType} (pd : parseMethodDescriptor y.desc = some ⟨ps, r⟩) {a : Addr} (Ea : Exa Z h a C) (argsL : List Value) {st : List Value} (hlen : argsL.length = ps.length) (hst : st = argsL.reverse ++ .ref a :: rest) (hd : decode bytes pc = .ok (.invokevirtual index, 3)) : Site p l e R (s.setVm vm0) m args below meth c T locs cells slots (mkF m pc ls st) 3 y (.ref a :: argsL).toArray rest := by
  obtain ⟨cq, q1, q2⟩ := Ea.cell
  have w3' : (Cond.selects y.cls y y).before args (s.setVm vm0) = true := by
    obtain ⟨c2, r2, m2, -, -, q3, -, kP, hkP, hkPi⟩ := Cond.selects_spec (mvT X.hZ w3 (args := args))
    exact selects_self_of_private (findClass_of_methodNamed q3) hkP hkPi (Cond.privateMethod_at (mvP X.hZ w4 (args := #[]))) (mvT X.hZ w2) hy
  refine ⟨fun hK hW hpre => ?_, fun hK hW hpre => ?_⟩
  · obtain ⟨v, vm₁, B, h1, h2, h5, h6⟩ := X.st.privateBack X.hx X.hown (mvT X.hZ w1) (mvT X.hZ w2) w3' (Cond.privateMethod_at (mvP X.hZ w4 (args := #[]))) (mvT X.hZ w5) hy hK (g := mkF m pc ls st) rfl (hls.trans X.hml.symm) (Steps.refl _) (by rw [X.eT]; exact q1) q2 (lenOf pd hlen) hst hW (X.hd hd) hpre
    exact ⟨v, vm₁, B, h1, h2, h5, fun t q => h6.trans q⟩
  · obtain ⟨v, vm₁, B, h1, h2, h3, h4, h5, h6⟩ := privateBackS X.st X.hx X.hown (mvT X.hZ w1) (mvT X.hZ w2) w3' (Cond.privateMethod_at (mvP X.hZ w4 (args := #[]))) (mvT X.hZ w5) hy hK (g := mkF m pc ls st) rfl (hls.trans X.hml.symm) (Steps.refl _) (by rw [X.eT]; exact q1) q2 (lenOf pd hlen) hst hW (X.hd hd) hpre
    exact ⟨v, vm₁, B, h1, h2, h3, h4, h5, fun t q => h6.trans q⟩
theorem Wk.sFace (X : Wk co Z a0 EL own bytes maxL ret nm ws p l e R s m args below meth c vm0 T h locs cells slots) {index count : Nat} {C : String} {xi y : MethodName} (w1 : (Cond.methodLink own index xi).before a0 Z = true) (w2 : (Cond.declares xi).before a0 Z = true) (w3 : (Cond.interfaceMethod xi.cls xi.cls xi.name xi.desc).before a0 Z = true) (h3 : ((Cond.interfaceMethod xi.cls xi.cls xi.name xi.desc).onTables && (Cond.interfaceMethod xi.cls xi.cls xi.name xi.desc).keepsFace) = true) (w4 : (Cond.selects C xi y).before a0 Z = true) (w5 : (Cond.instanceMethod y).before a0 Z = true) (w6 : (Cond.publicMethod y).before a0 Z = true) (w7 : (Cond.unhidden C xi.name xi.desc).before a0 Z = true) (w8 : (Cond.castable C xi.cls).before a0 Z = true) (hy : xi.cls ≠ "java/lang/invoke/MethodHandle" ∧ xi.cls ≠ "java/lang/invoke/VarHandle") (hls : ls.size = maxL) {ps : List FieldType} {r : Option FieldType} (pd : parseMethodDescriptor xi.desc = some ⟨ps, r⟩) {a : Addr} (Ea : Exa Z h a C) (argsL : List Value) {st : List Value} (hlen : argsL.length = ps.length) (hst : st = argsL.reverse ++ .ref a :: rest) (hd : decode bytes pc = .ok (.invokeinterface index count, 5)) : Site p l e R (s.setVm vm0) m args below meth c T locs cells slots (mkF m pc ls st) 5 y (.ref a :: argsL).toArray rest := by
  obtain ⟨cq, kq, qa, qb, qc⟩ := isOf X.hZ X.eT Ea
  refine ⟨fun hK hW hpre => ?_, fun hK hW hpre => ?_⟩
  · obtain ⟨v, vm₁, B, h1, h2, h5, h6⟩ := X.st.interfaceBack X.hx X.hown (mvT X.hZ w1) (mvT X.hZ w2) (mvT X.hZ w3 h3) (mvT X.hZ w4) (mvT X.hZ w5) (mvT X.hZ w6) (mvT X.hZ w7) (mvT X.hZ w8) hy hK qa qb qc (g := mkF m pc ls st) rfl (hls.trans X.hml.symm) (Steps.refl _) (lenOf pd hlen) hst hW (X.hd hd) hpre
    exact ⟨v, vm₁, B, h1, h2, h5, fun t q => h6.trans q⟩
  · obtain ⟨v, vm₁, B, h1, h2, h3, h4, h5, h6⟩ := X.st.interfaceBackS X.hx X.hown (mvT X.hZ w1) (mvT X.hZ w2) (mvT X.hZ w3 h3) (mvT X.hZ w4) (mvT X.hZ w5) (mvT X.hZ w6) (mvT X.hZ w7) (mvT X.hZ w8) hy hK qa qb qc (g := mkF m pc ls st) rfl (hls.trans X.hml.symm) (Steps.refl _) (lenOf pd hlen) hst hW (X.hd hd) hpre
    exact ⟨v, vm₁, B, h1, h2, h3, h4, h5, fun t q => h6.trans q⟩
theorem sameM {C : String} {y y' : MethodName} (w3 : (Cond.instanceMethod y).before a0 Z = true) (ws : (Cond.selects C y' y').before a0 Z = true) (hc : y'.cls = y.cls) (hy : y.cls ≠ "java/lang/invoke/MethodHandle" ∧ y.cls ≠ "java/lang/invoke/VarHandle") : (Cond.sameMethod y.cls y.cls y.name y.desc).before a0 Z = true := by
  obtain ⟨mk, methM, hnamed, -, -, -⟩ := Cond.instanceMethod_spec w3
  obtain ⟨c2, r2, m2, -, -, q3, -, kP, hkP, hkPi⟩ := Cond.selects_spec ws
  have e1 := findClass_of_methodNamed hnamed
  have e2 := findClass_of_methodNamed q3
  rw [hc] at e2
  have e3 : m2.cls = mk.cls := Option.some.inj (e2.symm.trans e1)
  rw [e3] at hkP
  have hf := State.methodFound?_of_named hnamed hy
  simp only [Cond.before, Cond.holds, Cond.value, e1, hf, show Z.methodNamed? ⟨y.cls, y.name, y.desc⟩ = some mk from hnamed, hkP]
  simp [hkPi]
theorem Wk.sSuper (X : Wk co Z a0 EL own bytes maxL ret nm ws p l e R s m args below meth c vm0 T h locs cells slots) {index : Nat} {C : String} {y y' : MethodName} {ybytes : ByteArray} {ymaxL : Nat} {yret : Option FieldType} {K : String} (hy1 : y.name ≠ "<init>") (w1 : (Cond.methodLink own index y).before a0 Z = true) (w2 : (Cond.instanceMethod y).before a0 Z = true) (ws : (Cond.selects C y' y').before a0 Z = true) (hc : y'.cls = y.cls) (w3 : (Cond.superclass own y.cls).before a0 Z = true) (w4 : (Cond.code y ybytes ymaxL yret).before a0 Z = true) (hy : y.cls ≠ "java/lang/invoke/MethodHandle" ∧ y.cls ≠ "java/lang/invoke/VarHandle") (hls : ls.size = maxL) {ps : List FieldType} {r : Option FieldType} (pd : parseMethodDescriptor y.desc = some ⟨ps, r⟩) {a : Addr} (F : Ins Z h a K true) (argsL : List Value) {st : List Value} (hlen : argsL.length = ps.length) (hst : st = argsL.reverse ++ .ref a :: rest) (hd : decode bytes pc = .ok (.invokespecial index, 3)) : Site p l e R (s.setVm vm0) m args below meth c T locs cells slots (mkF m pc ls st) 3 y (.ref a :: argsL).toArray rest := by
  have sm := sameM w2 ws hc hy
  refine ⟨fun hK hW hpre => ?_, fun hK hW hpre => ?_⟩
  · obtain ⟨v, vm₁, B, h1, h2, h5, h6⟩ := RoadKit.superBack X.st X.hx X.hZ X.hown w1 sm w2 w3 hy1 hK X.eT F (g := mkF m pc ls st) rfl (hls.trans X.hml.symm) w4 (lenOf pd hlen) hst hW (X.hd hd) hpre
    exact ⟨v, vm₁, B, h1, h2, h5, fun t q => h6.trans q⟩
  · obtain ⟨v, vm₁, B, h1, h2, h3, h4, h5, h6⟩ := RoadKit.superBackS X.st X.hx X.hZ X.hown w1 sm w2 w3 hy1 hK X.eT F (g := mkF m pc ls st) rfl (hls.trans X.hml.symm) w4 (lenOf pd hlen) hst hW (X.hd hd) hpre
    exact ⟨v, vm₁, B, h1, h2, h3, h4, h5, fun t q => h6.trans q⟩
theorem Wk.sSpecialN (X : Wk co Z a0 EL own bytes maxL ret nm ws p l e R s m args below meth c vm0 T h locs cells slots) {index : Nat} {y : MethodName} {host : String} {ybytes : ByteArray} {ymaxL : Nat} (hy1 : y.name = "<init>") (w1 : (Cond.methodLinkNest own index y host).before a0 Z = true) (w2 : (Cond.instanceMethod y).before a0 Z = true) (w4 : (Cond.code y ybytes ymaxL none).before a0 Z = true) (hy : y.cls ≠ "java/lang/invoke/MethodHandle" ∧ y.cls ≠ "java/lang/invoke/VarHandle") (hls : ls.size = maxL) {ps : List FieldType} {r : Option FieldType} (pd : parseMethodDescriptor y.desc = some ⟨ps, r⟩) {a : Addr} (argsL : List Value) {st : List Value} (hlen : argsL.length = ps.length) (hst : st = argsL.reverse ++ .ref a :: rest) (hd : decode bytes pc = .ok (.invokespecial index, 3)) : Site p l e R (s.setVm vm0) m args below meth c T locs cells slots (mkF m pc ls st) 3 y (.ref a :: argsL).toArray rest := by
  have w1' : (Cond.methodLinkNest own index y host).before args (s.setVm vm0) = true := Cond.methodLinkNest_wide X.hZ w1
  refine ⟨fun hK hW hpre => ?_, fun hK hW hpre => ?_⟩
  · obtain ⟨v, vm₁, B, h1, h2, h5, h6⟩ := Jvm.Stand.specialBackNest X.st X.hx hy1 X.hown w1' (mvT X.hZ w2) (mvT X.hZ w4) hy hK (g := mkF m pc ls st) rfl (hls.trans X.hml.symm) (Steps.refl _) (lenOf pd hlen) hst hW (X.hd hd) hpre
    exact ⟨v, vm₁, B, h1, h2, h5, fun t q => h6.trans q⟩
  · obtain ⟨v, vm₁, B, h1, h2, h3, h4, h5, h6⟩ := specialBackNestS X.st X.hx hy1 X.hown w1' (mvT X.hZ w2) (mvT X.hZ w4) hy hK (g := mkF m pc ls st) rfl (hls.trans X.hml.symm) (Steps.refl _) (lenOf pd hlen) hst hW (X.hd hd) hpre
    exact ⟨v, vm₁, B, h1, h2, h3, h4, h5, fun t q => h6.trans q⟩
theorem Wk.getSN (X : Wk co Z a0 EL own bytes maxL ret nm ws p l e R s m args below meth c vm0 T h locs cells slots) {R0 O n d host : String} {index : Nat} (w : (Cond.fieldLinkNest own index R0 n d host).before a0 Z = true) (via : Via Z R0 O n d) {v : Value} (F : Sta Z Z.heap O n d v) (hd : decode bytes pc = .ok (.getstatic index, 3)) (hp : pc + 3 = pc') (k : ∀ T, Wk co Z a0 EL own bytes maxL ret nm ws p l e R s m args below meth c vm0 T h locs cells slots → Ends p e below G (T.setTop (mkF m pc' ls (v :: rest)))) : Ends p e below G (T.setTop (mkF m pc ls rest)) := by
  subst hp
  obtain ⟨T', Y, e', st⟩ := RoadKit.getS2 X.st X.hx X.hZ X.hown (Or.inr w) via X.eT (F.ext X.old) (g := mkF m pc ls rest) rfl (X.hd hd)
  exact Ends.go (fun _ q => st _ q) (k _ (X.same Y e'))
theorem Wk.tswIn (X : Wk co Z a0 EL own bytes maxL ret nm ws p l e R s m args below meth c vm0 T h locs cells slots) {dflt low high : Int} {offs : Array Int} {len : Nat} {o : Int} {i : Int32} (hd : decode bytes pc = .ok (.tableswitch dflt low high offs, len)) (hin : ¬ (i.toInt < low ∨ i.toInt > high)) (hoff : offs[(i.toInt - low).toNat]? = some o) (ho : 0 ≤ (pc : Int) + o) (hp : ((pc : Int) + o).toNat = pc') (k : Ends p e below G (T.setTop (mkF m pc' ls rest))) : Ends p e below G (T.setTop (mkF m pc ls (.int i :: rest))) := Ends.go (fun _ q => XS.tswIn X.st.here X.hx rfl rfl (X.hd hd) rfl hin hoff ho hp q) k
theorem Wk.tswOut (X : Wk co Z a0 EL own bytes maxL ret nm ws p l e R s m args below meth c vm0 T h locs cells slots) {dflt low high : Int} {offs : Array Int} {len : Nat} {i : Int32} (hd : decode bytes pc = .ok (.tableswitch dflt low high offs, len)) (hout : i.toInt < low ∨ i.toInt > high) (ho : 0 ≤ (pc : Int) + dflt) (hp : ((pc : Int) + dflt).toNat = pc') (k : Ends p e below G (T.setTop (mkF m pc' ls rest))) : Ends p e below G (T.setTop (mkF m pc ls (.int i :: rest))) := Ends.go (fun _ q => XS.tswOut X.st.here X.hx rfl rfl (X.hd hd) rfl hout ho hp q) k
end Refs
end Jvm.Pilot.@@N@@.Y
namespace Jvm.Pilot.@@N@@
open Jvm Jvm.ClassFile Sem Op Lib Jvm.Free Jvm.Stand Jvm.LawKit Jvm.RoadKit Bundle Y Jvm.Pilot.@@N@@.Jvm.D
theorem d7_0 : decode jdk_42_method_149_code 0 = .ok (.aload_n 0, 1) := by decide +kernel
theorem d7_1 : decode jdk_42_method_149_code 1 = .ok (.invokespecial 1, 3) := by decide +kernel
theorem d7_4 : decode jdk_42_method_149_code 4 = .ok (.iload_n 3, 1) := by decide +kernel
theorem d7_5 : decode jdk_42_method_149_code 5 = .ok (.ifCond .ne 22, 3) := by decide +kernel
theorem d7_8 : decode jdk_42_method_149_code 8 = .ok (.aload_n 0, 1) := by decide +kernel
theorem d7_9 : decode jdk_42_method_149_code 9 = .ok (.ldc 7, 2) := by decide +kernel
theorem d7_11 : decode jdk_42_method_149_code 11 = .ok (.getfield 9, 3) := by decide +kernel
theorem d7_14 : decode jdk_42_method_149_code 14 = .ok (.putfield 9, 3) := by decide +kernel
theorem d7_17 : decode jdk_42_method_149_code 17 = .ok (.aload_n 0, 1) := by decide +kernel
theorem d7_18 : decode jdk_42_method_149_code 18 = .ok (.ldc 7, 2) := by decide +kernel
theorem d7_20 : decode jdk_42_method_149_code 20 = .ok (.getfield 15, 3) := by decide +kernel
theorem d7_23 : decode jdk_42_method_149_code 23 = .ok (.putfield 15, 3) := by decide +kernel
theorem d7_26 : decode jdk_42_method_149_code 26 = .ok (.return_, 1) := by decide +kernel
theorem d6_0 : decode jdk_42_method_3_code 0 = .ok (.aload_n 0, 1) := by decide +kernel
theorem d6_1 : decode jdk_42_method_3_code 1 = .ok (.aload_n 1, 1) := by decide +kernel
theorem d6_2 : decode jdk_42_method_3_code 2 = .ok (.iconst 0, 1) := by decide +kernel
theorem d6_3 : decode jdk_42_method_3_code 3 = .ok (.aload_n 1, 1) := by decide +kernel
theorem d6_4 : decode jdk_42_method_3_code 4 = .ok (.arraylength, 1) := by decide +kernel
theorem d6_5 : decode jdk_42_method_3_code 5 = .ok (.aconst_null, 1) := by decide +kernel
theorem d6_6 : decode jdk_42_method_3_code 6 = .ok (.invokespecial 27, 3) := by decide +kernel
theorem d6_9 : decode jdk_42_method_3_code 9 = .ok (.return_, 1) := by decide +kernel
theorem d2_0 : decode jdk_43_method_3_code 0 = .ok (.iload_n 0, 1) := by decide +kernel
theorem d2_1 : decode jdk_43_method_3_code 1 = .ok (.sipush 255, 3) := by decide +kernel
theorem d2_4 : decode jdk_43_method_3_code 4 = .ok (.if_icmp .gt 7, 3) := by decide +kernel
theorem d2_7 : decode jdk_43_method_3_code 7 = .ok (.iconst 1, 1) := by decide +kernel
theorem d2_8 : decode jdk_43_method_3_code 8 = .ok (.goto 4, 3) := by decide +kernel
theorem d2_12 : decode jdk_43_method_3_code 12 = .ok (.ireturn, 1) := by decide +kernel
theorem d3_0 : decode jdk_43_method_46_code 0 = .ok (.iconst 1, 1) := by decide +kernel
theorem d3_1 : decode jdk_43_method_46_code 1 = .ok (.newarray .byte, 2) := by decide +kernel
theorem d3_3 : decode jdk_43_method_46_code 3 = .ok (.dup, 1) := by decide +kernel
theorem d3_4 : decode jdk_43_method_46_code 4 = .ok (.iconst 0, 1) := by decide +kernel
theorem d3_5 : decode jdk_43_method_46_code 5 = .ok (.iload_n 0, 1) := by decide +kernel
theorem d3_6 : decode jdk_43_method_46_code 6 = .ok (.i2b, 1) := by decide +kernel
theorem d3_7 : decode jdk_43_method_46_code 7 = .ok (.bastore, 1) := by decide +kernel
theorem d3_8 : decode jdk_43_method_46_code 8 = .ok (.areturn, 1) := by decide +kernel
theorem d4_0 : decode jdk_42_method_151_code 0 = .ok (.aload_n 0, 1) := by decide +kernel
theorem d4_1 : decode jdk_42_method_151_code 1 = .ok (.invokespecial 1, 3) := by decide +kernel
theorem d4_4 : decode jdk_42_method_151_code 4 = .ok (.aload_n 0, 1) := by decide +kernel
theorem d4_5 : decode jdk_42_method_151_code 5 = .ok (.aload_n 1, 1) := by decide +kernel
theorem d4_6 : decode jdk_42_method_151_code 6 = .ok (.putfield 9, 3) := by decide +kernel
theorem d4_9 : decode jdk_42_method_151_code 9 = .ok (.aload_n 0, 1) := by decide +kernel
theorem d4_10 : decode jdk_42_method_151_code 10 = .ok (.iload_n 2, 1) := by decide +kernel
theorem d4_11 : decode jdk_42_method_151_code 11 = .ok (.putfield 15, 3) := by decide +kernel
theorem d4_14 : decode jdk_42_method_151_code 14 = .ok (.return_, 1) := by decide +kernel
theorem d1_0 : decode jdk_42_method_139_code 0 = .ok (.getstatic 38, 3) := by decide +kernel
theorem d1_3 : decode jdk_42_method_139_code 3 = .ok (.ifCond .eq 23, 3) := by decide +kernel
theorem d1_6 : decode jdk_42_method_139_code 6 = .ok (.iload_n 0, 1) := by decide +kernel
theorem d1_7 : decode jdk_42_method_139_code 7 = .ok (.invokestatic 1015, 3) := by decide +kernel
theorem d1_10 : decode jdk_42_method_139_code 10 = .ok (.ifCond .eq 16, 3) := by decide +kernel
theorem d1_13 : decode jdk_42_method_139_code 13 = .ok (.new 10, 3) := by decide +kernel
theorem d1_16 : decode jdk_42_method_139_code 16 = .ok (.dup, 1) := by decide +kernel
theorem d1_17 : decode jdk_42_method_139_code 17 = .ok (.iload_n 0, 1) := by decide +kernel
theorem d1_18 : decode jdk_42_method_139_code 18 = .ok (.invokestatic 1018, 3) := by decide +kernel
theorem d1_21 : decode jdk_42_method_139_code 21 = .ok (.iconst 0, 1) := by decide +kernel
theorem d1_22 : decode jdk_42_method_139_code 22 = .ok (.invokespecial 209, 3) := by decide +kernel
theorem d1_25 : decode jdk_42_method_139_code 25 = .ok (.areturn, 1) := by decide +kernel
theorem d15_0 : decode jdk_30_method_1_code 0 = .ok (.aload_n 0, 1) := by decide +kernel
theorem d15_1 : decode jdk_30_method_1_code 1 = .ok (.invokespecial 1, 3) := by decide +kernel
theorem d15_4 : decode jdk_30_method_1_code 4 = .ok (.return_, 1) := by decide +kernel
theorem d13_0 : decode jdk_22_method_1_code 0 = .ok (.aload_n 0, 1) := by decide +kernel
theorem d13_1 : decode jdk_22_method_1_code 1 = .ok (.invokespecial 1, 3) := by decide +kernel
theorem d13_4 : decode jdk_22_method_1_code 4 = .ok (.return_, 1) := by decide +kernel
theorem d12_0 : decode jdk_39_method_1_code 0 = .ok (.aload_n 0, 1) := by decide +kernel
theorem d12_1 : decode jdk_39_method_1_code 1 = .ok (.invokespecial 1, 3) := by decide +kernel
theorem d12_4 : decode jdk_39_method_1_code 4 = .ok (.aload_n 0, 1) := by decide +kernel
theorem d12_5 : decode jdk_39_method_1_code 5 = .ok (.iconst 0, 1) := by decide +kernel
theorem d12_6 : decode jdk_39_method_1_code 6 = .ok (.putfield 7, 3) := by decide +kernel
theorem d12_9 : decode jdk_39_method_1_code 9 = .ok (.return_, 1) := by decide +kernel
theorem d11_0 : decode jdk_38_method_2_code 0 = .ok (.aload_n 0, 1) := by decide +kernel
theorem d11_1 : decode jdk_38_method_2_code 1 = .ok (.invokespecial 1, 3) := by decide +kernel
theorem d11_4 : decode jdk_38_method_2_code 4 = .ok (.aload_n 0, 1) := by decide +kernel
theorem d11_5 : decode jdk_38_method_2_code 5 = .ok (.getstatic 39, 3) := by decide +kernel
theorem d11_8 : decode jdk_38_method_2_code 8 = .ok (.putfield 9, 3) := by decide +kernel
theorem d11_11 : decode jdk_38_method_2_code 11 = .ok (.return_, 1) := by decide +kernel
theorem d20_0 : decode jdk_29_method_65_code 0 = .ok (.iload_n 0, 1) := by decide +kernel
theorem d20_1 : decode jdk_29_method_65_code 1 = .ok (.iload_n 1, 1) := by decide +kernel
theorem d20_2 : decode jdk_29_method_65_code 2 = .ok (.if_icmp .lt 7, 3) := by decide +kernel
theorem d20_5 : decode jdk_29_method_65_code 5 = .ok (.iload_n 0, 1) := by decide +kernel
theorem d20_6 : decode jdk_29_method_65_code 6 = .ok (.goto 4, 3) := by decide +kernel
theorem d20_10 : decode jdk_29_method_65_code 10 = .ok (.ireturn, 1) := by decide +kernel
theorem d19_0 : decode jdk_38_method_6_code 0 = .ok (.aload_n 0, 1) := by decide +kernel
theorem d19_1 : decode jdk_38_method_6_code 1 = .ok (.getfield 9, 3) := by decide +kernel
theorem d19_4 : decode jdk_38_method_6_code 4 = .ok (.arraylength, 1) := by decide +kernel
theorem d19_5 : decode jdk_38_method_6_code 5 = .ok (.istore_n 2, 1) := by decide +kernel
theorem d19_6 : decode jdk_38_method_6_code 6 = .ok (.iload_n 2, 1) := by decide +kernel
theorem d19_7 : decode jdk_38_method_6_code 7 = .ok (.ifCond .gt 13, 3) := by decide +kernel
theorem d19_10 : decode jdk_38_method_6_code 10 = .ok (.aload_n 0, 1) := by decide +kernel
theorem d19_11 : decode jdk_38_method_6_code 11 = .ok (.getfield 9, 3) := by decide +kernel
theorem d19_14 : decode jdk_38_method_6_code 14 = .ok (.getstatic 39, 3) := by decide +kernel
theorem d19_17 : decode jdk_38_method_6_code 17 = .ok (.if_acmp .eq 28, 3) := by decide +kernel
theorem d19_45 : decode jdk_38_method_6_code 45 = .ok (.aload_n 0, 1) := by decide +kernel
theorem d19_46 : decode jdk_38_method_6_code 46 = .ok (.bipush 10, 2) := by decide +kernel
theorem d19_48 : decode jdk_38_method_6_code 48 = .ok (.iload_n 1, 1) := by decide +kernel
theorem d19_49 : decode jdk_38_method_6_code 49 = .ok (.invokestatic 79, 3) := by decide +kernel
theorem d19_52 : decode jdk_38_method_6_code 52 = .ok (.anewarray 7, 3) := by decide +kernel
theorem d19_55 : decode jdk_38_method_6_code 55 = .ok (.dup_x1, 1) := by decide +kernel
theorem d19_56 : decode jdk_38_method_6_code 56 = .ok (.putfield 9, 3) := by decide +kernel
theorem d19_59 : decode jdk_38_method_6_code 59 = .ok (.areturn, 1) := by decide +kernel
theorem d18_0 : decode jdk_38_method_7_code 0 = .ok (.aload_n 0, 1) := by decide +kernel
theorem d18_1 : decode jdk_38_method_7_code 1 = .ok (.aload_n 0, 1) := by decide +kernel
theorem d18_2 : decode jdk_38_method_7_code 2 = .ok (.getfield 48, 3) := by decide +kernel
theorem d18_5 : decode jdk_38_method_7_code 5 = .ok (.iconst 1, 1) := by decide +kernel
theorem d18_6 : decode jdk_38_method_7_code 6 = .ok (.iadd, 1) := by decide +kernel
theorem d18_7 : decode jdk_38_method_7_code 7 = .ok (.invokevirtual 69, 3) := by decide +kernel
theorem d18_10 : decode jdk_38_method_7_code 10 = .ok (.areturn, 1) := by decide +kernel
theorem d17_0 : decode jdk_38_method_24_code 0 = .ok (.iload_n 3, 1) := by decide +kernel
theorem d17_1 : decode jdk_38_method_24_code 1 = .ok (.aload_n 2, 1) := by decide +kernel
theorem d17_2 : decode jdk_38_method_24_code 2 = .ok (.arraylength, 1) := by decide +kernel
theorem d17_3 : decode jdk_38_method_24_code 3 = .ok (.if_icmp .ne 8, 3) := by decide +kernel
theorem d17_6 : decode jdk_38_method_24_code 6 = .ok (.aload_n 0, 1) := by decide +kernel
theorem d17_7 : decode jdk_38_method_24_code 7 = .ok (.invokevirtual 129, 3) := by decide +kernel
theorem d17_10 : decode jdk_38_method_24_code 10 = .ok (.astore_n 2, 1) := by decide +kernel
theorem d17_11 : decode jdk_38_method_24_code 11 = .ok (.aload_n 2, 1) := by decide +kernel
theorem d17_12 : decode jdk_38_method_24_code 12 = .ok (.iload_n 3, 1) := by decide +kernel
theorem d17_13 : decode jdk_38_method_24_code 13 = .ok (.aload_n 1, 1) := by decide +kernel
theorem d17_14 : decode jdk_38_method_24_code 14 = .ok (.aastore, 1) := by decide +kernel
theorem d17_15 : decode jdk_38_method_24_code 15 = .ok (.aload_n 0, 1) := by decide +kernel
theorem d17_16 : decode jdk_38_method_24_code 16 = .ok (.iload_n 3, 1) := by decide +kernel
theorem d17_17 : decode jdk_38_method_24_code 17 = .ok (.iconst 1, 1) := by decide +kernel
theorem d17_18 : decode jdk_38_method_24_code 18 = .ok (.iadd, 1) := by decide +kernel
theorem d17_19 : decode jdk_38_method_24_code 19 = .ok (.putfield 48, 3) := by decide +kernel
theorem d17_22 : decode jdk_38_method_24_code 22 = .ok (.return_, 1) := by decide +kernel
theorem d16_0 : decode jdk_38_method_25_code 0 = .ok (.aload_n 0, 1) := by decide +kernel
theorem d16_1 : decode jdk_38_method_25_code 1 = .ok (.dup, 1) := by decide +kernel
theorem d16_2 : decode jdk_38_method_25_code 2 = .ok (.getfield 63, 3) := by decide +kernel
theorem d16_5 : decode jdk_38_method_25_code 5 = .ok (.iconst 1, 1) := by decide +kernel
theorem d16_6 : decode jdk_38_method_25_code 6 = .ok (.iadd, 1) := by decide +kernel
theorem d16_7 : decode jdk_38_method_25_code 7 = .ok (.putfield 63, 3) := by decide +kernel
theorem d16_10 : decode jdk_38_method_25_code 10 = .ok (.aload_n 0, 1) := by decide +kernel
theorem d16_11 : decode jdk_38_method_25_code 11 = .ok (.aload_n 1, 1) := by decide +kernel
theorem d16_12 : decode jdk_38_method_25_code 12 = .ok (.aload_n 0, 1) := by decide +kernel
theorem d16_13 : decode jdk_38_method_25_code 13 = .ok (.getfield 9, 3) := by decide +kernel
theorem d16_16 : decode jdk_38_method_25_code 16 = .ok (.aload_n 0, 1) := by decide +kernel
theorem d16_17 : decode jdk_38_method_25_code 17 = .ok (.getfield 48, 3) := by decide +kernel
theorem d16_20 : decode jdk_38_method_25_code 20 = .ok (.invokevirtual 131, 3) := by decide +kernel
theorem d16_23 : decode jdk_38_method_25_code 23 = .ok (.iconst 1, 1) := by decide +kernel
theorem d16_24 : decode jdk_38_method_25_code 24 = .ok (.ireturn, 1) := by decide +kernel
theorem d27_0 : decode jdk_29_method_69_code 0 = .ok (.iload_n 0, 1) := by decide +kernel
theorem d27_1 : decode jdk_29_method_69_code 1 = .ok (.iload_n 1, 1) := by decide +kernel
theorem d27_2 : decode jdk_29_method_69_code 2 = .ok (.if_icmp .gt 7, 3) := by decide +kernel
theorem d27_9 : decode jdk_29_method_69_code 9 = .ok (.iload_n 1, 1) := by decide +kernel
theorem d27_10 : decode jdk_29_method_69_code 10 = .ok (.ireturn, 1) := by decide +kernel
theorem d26_0 : decode jdk_65_method_120_code 0 = .ok (.aload_n 2, 1) := by decide +kernel
theorem d26_1 : decode jdk_65_method_120_code 1 = .ok (.ldc 110, 2) := by decide +kernel
theorem d26_3 : decode jdk_65_method_120_code 3 = .ok (.if_acmp .ne 10, 3) := by decide +kernel
theorem d26_6 : decode jdk_65_method_120_code 6 = .ok (.iload_n 1, 1) := by decide +kernel
theorem d26_7 : decode jdk_65_method_120_code 7 = .ok (.anewarray 2, 3) := by decide +kernel
theorem d26_10 : decode jdk_65_method_120_code 10 = .ok (.goto 14, 3) := by decide +kernel
theorem d26_24 : decode jdk_65_method_120_code 24 = .ok (.astore_n 3, 1) := by decide +kernel
theorem d26_25 : decode jdk_65_method_120_code 25 = .ok (.aload_n 0, 1) := by decide +kernel
theorem d26_26 : decode jdk_65_method_120_code 26 = .ok (.iconst 0, 1) := by decide +kernel
theorem d26_27 : decode jdk_65_method_120_code 27 = .ok (.aload_n 3, 1) := by decide +kernel
theorem d26_28 : decode jdk_65_method_120_code 28 = .ok (.iconst 0, 1) := by decide +kernel
theorem d26_29 : decode jdk_65_method_120_code 29 = .ok (.aload_n 0, 1) := by decide +kernel
theorem d26_30 : decode jdk_65_method_120_code 30 = .ok (.arraylength, 1) := by decide +kernel
theorem d26_31 : decode jdk_65_method_120_code 31 = .ok (.iload_n 1, 1) := by decide +kernel
theorem d26_32 : decode jdk_65_method_120_code 32 = .ok (.invokestatic 304, 3) := by decide +kernel
theorem d26_35 : decode jdk_65_method_120_code 35 = .ok (.invokestatic 150, 3) := by decide +kernel
theorem d26_38 : decode jdk_65_method_120_code 38 = .ok (.aload_n 3, 1) := by decide +kernel
theorem d26_39 : decode jdk_65_method_120_code 39 = .ok (.areturn, 1) := by decide +kernel
theorem d25_0 : decode jdk_65_method_119_code 0 = .ok (.aload_n 0, 1) := by decide +kernel
theorem d25_1 : decode jdk_65_method_119_code 1 = .ok (.iload_n 1, 1) := by decide +kernel
theorem d25_2 : decode jdk_65_method_119_code 2 = .ok (.aload_n 0, 1) := by decide +kernel
theorem d25_3 : decode jdk_65_method_119_code 3 = .ok (.invokevirtual 86, 3) := by decide +kernel
theorem d25_6 : decode jdk_65_method_119_code 6 = .ok (.invokestatic 300, 3) := by decide +kernel
theorem d25_9 : decode jdk_65_method_119_code 9 = .ok (.areturn, 1) := by decide +kernel
theorem d24_0 : decode jdk_38_method_16_code 0 = .ok (.aload_n 0, 1) := by decide +kernel
theorem d24_1 : decode jdk_38_method_16_code 1 = .ok (.getfield 9, 3) := by decide +kernel
theorem d24_4 : decode jdk_38_method_16_code 4 = .ok (.aload_n 0, 1) := by decide +kernel
theorem d24_5 : decode jdk_38_method_16_code 5 = .ok (.getfield 48, 3) := by decide +kernel
theorem d24_8 : decode jdk_38_method_16_code 8 = .ok (.invokestatic 66, 3) := by decide +kernel
theorem d24_11 : decode jdk_38_method_16_code 11 = .ok (.areturn, 1) := by decide +kernel
theorem d23_0 : decode jdk_38_method_3_code 0 = .ok (.aload_n 0, 1) := by decide +kernel
theorem d23_1 : decode jdk_38_method_3_code 1 = .ok (.invokespecial 1, 3) := by decide +kernel
theorem d23_4 : decode jdk_38_method_3_code 4 = .ok (.aload_n 1, 1) := by decide +kernel
theorem d23_5 : decode jdk_38_method_3_code 5 = .ok (.invokeinterface 42 1, 5) := by decide +kernel
theorem d23_10 : decode jdk_38_method_3_code 10 = .ok (.astore_n 2, 1) := by decide +kernel
theorem d23_11 : decode jdk_38_method_3_code 11 = .ok (.aload_n 0, 1) := by decide +kernel
theorem d23_12 : decode jdk_38_method_3_code 12 = .ok (.aload_n 2, 1) := by decide +kernel
theorem d23_13 : decode jdk_38_method_3_code 13 = .ok (.arraylength, 1) := by decide +kernel
theorem d23_14 : decode jdk_38_method_3_code 14 = .ok (.dup_x1, 1) := by decide +kernel
theorem d23_15 : decode jdk_38_method_3_code 15 = .ok (.putfield 48, 3) := by decide +kernel
theorem d23_18 : decode jdk_38_method_3_code 18 = .ok (.ifCond .eq 39, 3) := by decide +kernel
theorem d23_21 : decode jdk_38_method_3_code 21 = .ok (.aload_n 1, 1) := by decide +kernel
theorem d23_22 : decode jdk_38_method_3_code 22 = .ok (.invokeinterface 52 1, 5) := by decide +kernel
theorem d23_27 : decode jdk_38_method_3_code 27 = .ok (.ldc 10, 2) := by decide +kernel
theorem d23_29 : decode jdk_38_method_3_code 29 = .ok (.if_acmp .ne 11, 3) := by decide +kernel
theorem d23_32 : decode jdk_38_method_3_code 32 = .ok (.aload_n 0, 1) := by decide +kernel
theorem d23_33 : decode jdk_38_method_3_code 33 = .ok (.aload_n 2, 1) := by decide +kernel
theorem d23_34 : decode jdk_38_method_3_code 34 = .ok (.putfield 9, 3) := by decide +kernel
theorem d23_37 : decode jdk_38_method_3_code 37 = .ok (.goto 27, 3) := by decide +kernel
theorem d23_64 : decode jdk_38_method_3_code 64 = .ok (.return_, 1) := by decide +kernel
theorem d31_0 : decode jdk_119_method_1_code 0 = .ok (.aload_n 0, 1) := by decide +kernel
theorem d31_1 : decode jdk_119_method_1_code 1 = .ok (.invokespecial 1, 3) := by decide +kernel
theorem d31_4 : decode jdk_119_method_1_code 4 = .ok (.aload_n 1, 1) := by decide +kernel
theorem d31_5 : decode jdk_119_method_1_code 5 = .ok (.ifnonnull 11, 3) := by decide +kernel
theorem d31_16 : decode jdk_119_method_1_code 16 = .ok (.aload_n 0, 1) := by decide +kernel
theorem d31_17 : decode jdk_119_method_1_code 17 = .ok (.aload_n 1, 1) := by decide +kernel
theorem d31_18 : decode jdk_119_method_1_code 18 = .ok (.putfield 10, 3) := by decide +kernel
theorem d31_21 : decode jdk_119_method_1_code 21 = .ok (.return_, 1) := by decide +kernel
theorem d30_0 : decode jdk_120_method_1_code 0 = .ok (.aload_n 0, 1) := by decide +kernel
theorem d30_1 : decode jdk_120_method_1_code 1 = .ok (.aload_n 1, 1) := by decide +kernel
theorem d30_2 : decode jdk_120_method_1_code 2 = .ok (.invokespecial 1, 3) := by decide +kernel
theorem d30_5 : decode jdk_120_method_1_code 5 = .ok (.aload_n 0, 1) := by decide +kernel
theorem d30_6 : decode jdk_120_method_1_code 6 = .ok (.aload_n 1, 1) := by decide +kernel
theorem d30_7 : decode jdk_120_method_1_code 7 = .ok (.putfield 7, 3) := by decide +kernel
theorem d30_10 : decode jdk_120_method_1_code 10 = .ok (.return_, 1) := by decide +kernel
theorem d29_0 : decode jdk_121_method_1_code 0 = .ok (.aload_n 0, 1) := by decide +kernel
theorem d29_1 : decode jdk_121_method_1_code 1 = .ok (.aload_n 1, 1) := by decide +kernel
theorem d29_2 : decode jdk_121_method_1_code 2 = .ok (.invokespecial 1, 3) := by decide +kernel
theorem d29_5 : decode jdk_121_method_1_code 5 = .ok (.return_, 1) := by decide +kernel
theorem d28_0 : decode jdk_79_method_35_code 0 = .ok (.aload_n 0, 1) := by decide +kernel
theorem d28_1 : decode jdk_79_method_35_code 1 = .ok (.invokeinterface 211 1, 5) := by decide +kernel
theorem d28_6 : decode jdk_79_method_35_code 6 = .ok (.ldc 212, 2) := by decide +kernel
theorem d28_8 : decode jdk_79_method_35_code 8 = .ok (.if_acmp .eq 14, 3) := by decide +kernel
theorem d28_22 : decode jdk_79_method_35_code 22 = .ok (.aload_n 0, 1) := by decide +kernel
theorem d28_23 : decode jdk_79_method_35_code 23 = .ok (.areturn, 1) := by decide +kernel
theorem d28_11 : decode jdk_79_method_35_code 11 = .ok (.aload_n 0, 1) := by decide +kernel
theorem d28_12 : decode jdk_79_method_35_code 12 = .ok (.invokeinterface 214 1, 5) := by decide +kernel
theorem d28_17 : decode jdk_79_method_35_code 17 = .ok (.ldc 215, 2) := by decide +kernel
theorem d28_19 : decode jdk_79_method_35_code 19 = .ok (.if_acmp .ne 5, 3) := by decide +kernel
theorem d28_24 : decode jdk_79_method_35_code 24 = .ok (.aload_n 0, 1) := by decide +kernel
theorem d28_25 : decode jdk_79_method_35_code 25 = .ok (.instanceof 13, 3) := by decide +kernel
theorem d28_28 : decode jdk_79_method_35_code 28 = .ok (.ifCond .eq 14, 3) := by decide +kernel
theorem d28_31 : decode jdk_79_method_35_code 31 = .ok (.new 215, 3) := by decide +kernel
theorem d28_34 : decode jdk_79_method_35_code 34 = .ok (.dup, 1) := by decide +kernel
theorem d28_35 : decode jdk_79_method_35_code 35 = .ok (.aload_n 0, 1) := by decide +kernel
theorem d28_36 : decode jdk_79_method_35_code 36 = .ok (.invokespecial 217, 3) := by decide +kernel
theorem d28_39 : decode jdk_79_method_35_code 39 = .ok (.goto 11, 3) := by decide +kernel
theorem d28_50 : decode jdk_79_method_35_code 50 = .ok (.areturn, 1) := by decide +kernel
theorem d22_0 : decode jdk_38_method_9_code 0 = .ok (.aload_n 0, 1) := by decide +kernel
theorem d22_1 : decode jdk_38_method_9_code 1 = .ok (.getfield 48, 3) := by decide +kernel
theorem d22_4 : decode jdk_38_method_9_code 4 = .ok (.ifCond .ne 7, 3) := by decide +kernel
theorem d22_7 : decode jdk_38_method_9_code 7 = .ok (.iconst 1, 1) := by decide +kernel
theorem d22_8 : decode jdk_38_method_9_code 8 = .ok (.goto 4, 3) := by decide +kernel
theorem d22_12 : decode jdk_38_method_9_code 12 = .ok (.ireturn, 1) := by decide +kernel
theorem d22_11 : decode jdk_38_method_9_code 11 = .ok (.iconst 0, 1) := by decide +kernel
theorem d32_0 : decode jdk_119_method_3_code 0 = .ok (.aload_n 0, 1) := by decide +kernel
theorem d32_1 : decode jdk_119_method_3_code 1 = .ok (.getfield 10, 3) := by decide +kernel
theorem d32_4 : decode jdk_119_method_3_code 4 = .ok (.invokeinterface 22 1, 5) := by decide +kernel
theorem d32_9 : decode jdk_119_method_3_code 9 = .ok (.ireturn, 1) := by decide +kernel
theorem d37_0 : decode jdk_40_method_36_code 0 = .ok (.getstatic 90, 3) := by decide +kernel
theorem d37_3 : decode jdk_40_method_36_code 3 = .ok (.areturn, 1) := by decide +kernel
theorem d38_0 : decode jdk_45_method_2_code 0 = .ok (.aload_n 0, 1) := by decide +kernel
theorem d38_1 : decode jdk_45_method_2_code 1 = .ok (.getfield 7, 3) := by decide +kernel
theorem d38_4 : decode jdk_45_method_2_code 4 = .ok (.arraylength, 1) := by decide +kernel
theorem d38_5 : decode jdk_45_method_2_code 5 = .ok (.ifCond .ne 7, 3) := by decide +kernel
theorem d38_8 : decode jdk_45_method_2_code 8 = .ok (.iconst 1, 1) := by decide +kernel
theorem d38_9 : decode jdk_45_method_2_code 9 = .ok (.goto 4, 3) := by decide +kernel
theorem d38_13 : decode jdk_45_method_2_code 13 = .ok (.ireturn, 1) := by decide +kernel
theorem d14_0 : decode prog_5_method_1_code 0 = .ok (.aload_n 0, 1) := by decide +kernel
theorem d14_1 : decode prog_5_method_1_code 1 = .ok (.invokespecial 1, 3) := by decide +kernel
theorem d14_4 : decode prog_5_method_1_code 4 = .ok (.aload_n 0, 1) := by decide +kernel
theorem d14_5 : decode prog_5_method_1_code 5 = .ok (.aload_n 1, 1) := by decide +kernel
theorem d14_6 : decode prog_5_method_1_code 6 = .ok (.putfield 7, 3) := by decide +kernel
theorem d14_9 : decode prog_5_method_1_code 9 = .ok (.aload_n 0, 1) := by decide +kernel
theorem d14_10 : decode prog_5_method_1_code 10 = .ok (.iload_n 2, 1) := by decide +kernel
theorem d14_11 : decode prog_5_method_1_code 11 = .ok (.putfield 13, 3) := by decide +kernel
theorem d14_14 : decode prog_5_method_1_code 14 = .ok (.return_, 1) := by decide +kernel
theorem d21_0 : decode prog_6_method_1_code 0 = .ok (.aload_n 0, 1) := by decide +kernel
theorem d21_1 : decode prog_6_method_1_code 1 = .ok (.invokespecial 1, 3) := by decide +kernel
theorem d21_4 : decode prog_6_method_1_code 4 = .ok (.aload_n 3, 1) := by decide +kernel
theorem d21_5 : decode prog_6_method_1_code 5 = .ok (.invokeinterface 7 1, 5) := by decide +kernel
theorem d21_10 : decode prog_6_method_1_code 10 = .ok (.ifCond .eq 9, 3) := by decide +kernel
theorem d21_13 : decode prog_6_method_1_code 13 = .ok (.invokestatic 13, 3) := by decide +kernel
theorem d21_16 : decode prog_6_method_1_code 16 = .ok (.goto 14, 3) := by decide +kernel
theorem d21_30 : decode prog_6_method_1_code 30 = .ok (.astore_n 3, 1) := by decide +kernel
theorem d21_31 : decode prog_6_method_1_code 31 = .ok (.aload_n 2, 1) := by decide +kernel
theorem d21_32 : decode prog_6_method_1_code 32 = .ok (.ifnonnull 7, 3) := by decide +kernel
theorem d21_39 : decode prog_6_method_1_code 39 = .ok (.iconst 0, 1) := by decide +kernel
theorem d21_40 : decode prog_6_method_1_code 40 = .ok (.aload_n 3, 1) := by decide +kernel
theorem d21_41 : decode prog_6_method_1_code 41 = .ok (.invokeinterface 7 1, 5) := by decide +kernel
theorem d21_46 : decode prog_6_method_1_code 46 = .ok (.if_icmp .ne 17, 3) := by decide +kernel
theorem d21_63 : decode prog_6_method_1_code 63 = .ok (.aload_n 0, 1) := by decide +kernel
theorem d21_64 : decode prog_6_method_1_code 64 = .ok (.aload_n 1, 1) := by decide +kernel
theorem d21_65 : decode prog_6_method_1_code 65 = .ok (.putfield 37, 3) := by decide +kernel
theorem d21_68 : decode prog_6_method_1_code 68 = .ok (.aload_n 0, 1) := by decide +kernel
theorem d21_69 : decode prog_6_method_1_code 69 = .ok (.aload_n 2, 1) := by decide +kernel
theorem d21_70 : decode prog_6_method_1_code 70 = .ok (.putfield 43, 3) := by decide +kernel
theorem d21_73 : decode prog_6_method_1_code 73 = .ok (.aload_n 0, 1) := by decide +kernel
theorem d21_74 : decode prog_6_method_1_code 74 = .ok (.aload_n 3, 1) := by decide +kernel
theorem d21_75 : decode prog_6_method_1_code 75 = .ok (.putfield 46, 3) := by decide +kernel
theorem d21_78 : decode prog_6_method_1_code 78 = .ok (.aload_n 0, 1) := by decide +kernel
theorem d21_79 : decode prog_6_method_1_code 79 = .ok (.iload 4, 2) := by decide +kernel
theorem d21_81 : decode prog_6_method_1_code 81 = .ok (.putfield 50, 3) := by decide +kernel
theorem d21_84 : decode prog_6_method_1_code 84 = .ok (.return_, 1) := by decide +kernel
theorem d21_19 : decode prog_6_method_1_code 19 = .ok (.new 17, 3) := by decide +kernel
theorem d21_22 : decode prog_6_method_1_code 22 = .ok (.dup, 1) := by decide +kernel
theorem d21_23 : decode prog_6_method_1_code 23 = .ok (.aload_n 3, 1) := by decide +kernel
theorem d21_24 : decode prog_6_method_1_code 24 = .ok (.invokespecial 19, 3) := by decide +kernel
theorem d21_27 : decode prog_6_method_1_code 27 = .ok (.invokestatic 22, 3) := by decide +kernel
theorem d21_35 : decode prog_6_method_1_code 35 = .ok (.iconst 1, 1) := by decide +kernel
theorem d21_36 : decode prog_6_method_1_code 36 = .ok (.goto 4, 3) := by decide +kernel
theorem d33_0 : decode prog_6_method_4_code 0 = .ok (.aload_n 0, 1) := by decide +kernel
theorem d33_1 : decode prog_6_method_4_code 1 = .ok (.getfield 43, 3) := by decide +kernel
theorem d33_4 : decode prog_6_method_4_code 4 = .ok (.ifnull 7, 3) := by decide +kernel
theorem d33_11 : decode prog_6_method_4_code 11 = .ok (.iconst 0, 1) := by decide +kernel
theorem d33_12 : decode prog_6_method_4_code 12 = .ok (.ireturn, 1) := by decide +kernel
theorem d33_7 : decode prog_6_method_4_code 7 = .ok (.iconst 1, 1) := by decide +kernel
theorem d33_8 : decode prog_6_method_4_code 8 = .ok (.goto 4, 3) := by decide +kernel
theorem d34_0 : decode prog_6_method_11_code 0 = .ok (.aload_n 0, 1) := by decide +kernel
theorem d34_1 : decode prog_6_method_11_code 1 = .ok (.getfield 43, 3) := by decide +kernel
theorem d34_4 : decode prog_6_method_11_code 4 = .ok (.areturn, 1) := by decide +kernel
theorem d35_0 : decode prog_6_method_12_code 0 = .ok (.aload_n 0, 1) := by decide +kernel
theorem d35_1 : decode prog_6_method_12_code 1 = .ok (.getfield 46, 3) := by decide +kernel
theorem d35_4 : decode prog_6_method_12_code 4 = .ok (.areturn, 1) := by decide +kernel
theorem d36_0 : decode prog_6_method_13_code 0 = .ok (.aload_n 0, 1) := by decide +kernel
theorem d36_1 : decode prog_6_method_13_code 1 = .ok (.getfield 50, 3) := by decide +kernel
theorem d36_4 : decode prog_6_method_13_code 4 = .ok (.ireturn, 1) := by decide +kernel
theorem pd0 : parseMethodDescriptor "([CIILjava/lang/Void;)V" = some ⟨[(.array .char), .int, .int, (.object "java/lang/Void")], none⟩ := by decide +kernel
theorem pd1 : parseMethodDescriptor "(C)Z" = some ⟨[.char], some .boolean⟩ := by decide +kernel
theorem pd2 : parseMethodDescriptor "(C)[B" = some ⟨[.char], some (.array .byte)⟩ := by decide +kernel
theorem pd3 : parseMethodDescriptor "([BB)V" = some ⟨[(.array .byte), .byte], none⟩ := by decide +kernel
theorem pd4 : parseMethodDescriptor "()V" = some ⟨[], none⟩ := by decide +kernel
theorem pd5 : parseMethodDescriptor "(II)I" = some ⟨[.int, .int], some .int⟩ := by decide +kernel
theorem pd6 : parseMethodDescriptor "(I)[Ljava/lang/Object;" = some ⟨[.int], some (.array (.object "java/lang/Object"))⟩ := by decide +kernel
theorem pd7 : parseMethodDescriptor "()[Ljava/lang/Object;" = some ⟨[], some (.array (.object "java/lang/Object"))⟩ := by decide +kernel
theorem pd8 : parseMethodDescriptor "(Ljava/lang/Object;[Ljava/lang/Object;I)V" = some ⟨[(.object "java/lang/Object"), (.array (.object "java/lang/Object")), .int], none⟩ := by decide +kernel
theorem pd9 : parseMethodDescriptor "([Ljava/lang/Object;ILjava/lang/Class;)[Ljava/lang/Object;" = some ⟨[(.array (.object "java/lang/Object")), .int, (.object "java/lang/Class")], some (.array (.object "java/lang/Object"))⟩ := by decide +kernel
theorem pd10 : parseMethodDescriptor "([Ljava/lang/Object;I)[Ljava/lang/Object;" = some ⟨[(.array (.object "java/lang/Object")), .int], some (.array (.object "java/lang/Object"))⟩ := by decide +kernel
theorem pd11 : parseMethodDescriptor "(Ljava/util/Collection;)V" = some ⟨[(.object "java/util/Collection")], none⟩ := by decide +kernel
theorem pd12 : parseMethodDescriptor "(Ljava/util/List;)V" = some ⟨[(.object "java/util/List")], none⟩ := by decide +kernel
theorem pd13 : parseMethodDescriptor "()Z" = some ⟨[], some .boolean⟩ := by decide +kernel
theorem pd14 : parseMethodDescriptor "()Ljava/util/List;" = some ⟨[], some (.object "java/util/List")⟩ := by decide +kernel
theorem pd15 : parseMethodDescriptor "(Ljava/util/List;)Ljava/util/List;" = some ⟨[(.object "java/util/List")], some (.object "java/util/List")⟩ := by decide +kernel
theorem pd16 : parseMethodDescriptor "(C)Ljava/lang/String;" = some ⟨[.char], some (.object "java/lang/String")⟩ := by decide +kernel
theorem pd17 : parseMethodDescriptor "([C)V" = some ⟨[(.array .char)], none⟩ := by decide +kernel
theorem pd18 : parseMethodDescriptor "(Ljava/lang/String;I)V" = some ⟨[(.object "java/lang/String"), .int], none⟩ := by decide +kernel
theorem pd19 : parseMethodDescriptor "(Ljava/lang/Object;)Z" = some ⟨[(.object "java/lang/Object")], some .boolean⟩ := by decide +kernel
theorem pd20 : parseMethodDescriptor "(Ljava/lang/String;Ljava/lang/String;Ljava/util/List;I)V" = some ⟨[(.object "java/lang/String"), (.object "java/lang/String"), (.object "java/util/List"), .int], none⟩ := by decide +kernel
theorem pd21 : parseMethodDescriptor "()Ljava/lang/String;" = some ⟨[], some (.object "java/lang/String")⟩ := by decide +kernel
theorem pd22 : parseMethodDescriptor "()I" = some ⟨[], some .int⟩ := by decide +kernel
theorem pn0 : plainName "java/lang/String" = true := by first | (simp [plainName, overriddenIn]; done) | decide +kernel
theorem pn1 : plainName "java/lang/StringLatin1" = true := by first | (simp [plainName, overriddenIn]; done) | decide +kernel
theorem pn2 : plainName "java/lang/Record" = true := by first | (simp [plainName, overriddenIn]; done) | decide +kernel
theorem pn3 : plainName "java/util/AbstractCollection" = true := by first | (simp [plainName, overriddenIn]; done) | decide +kernel
theorem pn4 : plainName "java/util/AbstractList" = true := by first | (simp [plainName, overriddenIn]; done) | decide +kernel
theorem pn5 : plainName "java/util/ArrayList" = true := by first | (simp [plainName, overriddenIn]; done) | decide +kernel
theorem pf20 : plainFor (⟨"java/lang/Math", "max", "(II)I"⟩ : MethodName) = true := by first | decide +kernel | rfl
theorem pf27 : plainFor (⟨"java/lang/Math", "min", "(II)I"⟩ : MethodName) = true := by first | decide +kernel | rfl
theorem pn8 : plainName "java/util/Arrays" = true := by first | (simp [plainName, overriddenIn]; done) | decide +kernel
theorem pn9 : plainName "java/util/Collections$UnmodifiableCollection" = true := by first | (simp [plainName, overriddenIn]; done) | decide +kernel
theorem pn10 : plainName "java/util/Collections$UnmodifiableList" = true := by first | (simp [plainName, overriddenIn]; done) | decide +kernel
theorem pn11 : plainName "java/util/Collections$UnmodifiableRandomAccessList" = true := by first | (simp [plainName, overriddenIn]; done) | decide +kernel
theorem pn12 : plainName "java/util/Collections" = true := by first | (simp [plainName, overriddenIn]; done) | decide +kernel
theorem pn13 : plainName "java/util/List" = true := by first | (simp [plainName, overriddenIn]; done) | decide +kernel
theorem pn14 : plainName "java/util/ImmutableCollections$ListN" = true := by first | (simp [plainName, overriddenIn]; done) | decide +kernel
theorem pn15 : plainName "com/example/treegraft/treegraft/brackets/Atom" = true := by first | (simp [plainName, overriddenIn]; done) | decide +kernel
theorem pn16 : plainName "com/example/treegraft/treegraft/brackets/Bracket" = true := by first | (simp [plainName, overriddenIn]; done) | decide +kernel
theorem pn17 : plainName "com/example/treegraft/treegraft/brackets/BracketIsWordPinLaw" = true := by first | (simp [plainName, overriddenIn]; done) | decide +kernel
theorem wd0 {Z : State} {a0 : Array Value} (hw : ∀ d ∈ tables_1, d.before a0 Z = true) : (Jvm.Cond.methodLink "com/example/treegraft/treegraft/brackets/BracketIsWordPinLaw" (7 : Nat) ({ cls := "java/lang/String", name := "valueOf", desc := "(C)Ljava/lang/String;" } : Jvm.MethodName)).before a0 Z = true := hw _ (List.mem_of_getElem? (i := 0) rfl)
theorem wd1 {Z : State} {a0 : Array Value} (hw : ∀ d ∈ tables_1, d.before a0 Z = true) : (Jvm.Cond.static ({ cls := "java/lang/String", name := "valueOf", desc := "(C)Ljava/lang/String;" } : Jvm.MethodName)).before a0 Z = true := hw _ (List.mem_of_getElem? (i := 1) rfl)
theorem wd2 {Z : State} {a0 : Array Value} (hw : ∀ d ∈ tables_1, d.before a0 Z = true) : (Jvm.Cond.initialized "java/lang/String").before a0 Z = true := hw _ (List.mem_of_getElem? (i := 2) rfl)
theorem wd3 {Z : State} {a0 : Array Value} (hw : ∀ d ∈ tables_1, d.before a0 Z = true) : (Jvm.Cond.code ({ cls := "java/lang/String", name := "valueOf", desc := "(C)Ljava/lang/String;" } : Jvm.MethodName) jdk_42_method_139_code (1 : Nat) (Option.some (Jvm.ClassFile.FieldType.object "java/lang/String"))).before a0 Z = true := hw _ (List.mem_of_getElem? (i := 3) rfl)
theorem wd4 {Z : State} {a0 : Array Value} (hw : ∀ d ∈ tables_1, d.before a0 Z = true) : (Jvm.Cond.fieldLink "java/lang/String" (38 : Nat) "java/lang/String" "COMPACT_STRINGS" "Z").before a0 Z = true := hw _ (List.mem_of_getElem? (i := 4) rfl)
theorem wd5 {Z : State} {a0 : Array Value} (hw : ∀ d ∈ tables_1, d.before a0 Z = true) : (Jvm.Cond.methodLink "java/lang/String" (1015 : Nat) ({ cls := "java/lang/StringLatin1", name := "canEncode", desc := "(C)Z" } : Jvm.MethodName)).before a0 Z = true := hw _ (List.mem_of_getElem? (i := 5) rfl)
theorem wd6 {Z : State} {a0 : Array Value} (hw : ∀ d ∈ tables_1, d.before a0 Z = true) : (Jvm.Cond.static ({ cls := "java/lang/StringLatin1", name := "canEncode", desc := "(C)Z" } : Jvm.MethodName)).before a0 Z = true := hw _ (List.mem_of_getElem? (i := 6) rfl)
theorem wd7 {Z : State} {a0 : Array Value} (hw : ∀ d ∈ tables_1, d.before a0 Z = true) : (Jvm.Cond.initialized "java/lang/StringLatin1").before a0 Z = true := hw _ (List.mem_of_getElem? (i := 7) rfl)
theorem wd8 {Z : State} {a0 : Array Value} (hw : ∀ d ∈ tables_1, d.before a0 Z = true) : (Jvm.Cond.code ({ cls := "java/lang/StringLatin1", name := "canEncode", desc := "(C)Z" } : Jvm.MethodName) jdk_43_method_3_code (1 : Nat) (Option.some Jvm.ClassFile.FieldType.boolean)).before a0 Z = true := hw _ (List.mem_of_getElem? (i := 8) rfl)
theorem wd9 {Z : State} {a0 : Array Value} (hw : ∀ d ∈ tables_1, d.before a0 Z = true) : (Jvm.Cond.classLink "java/lang/String" (10 : Nat) "java/lang/String").before a0 Z = true := hw _ (List.mem_of_getElem? (i := 9) rfl)
theorem wd10 {Z : State} {a0 : Array Value} (hw : ∀ d ∈ tables_1, d.before a0 Z = true) : (Jvm.Cond.instantiable "java/lang/String" (4 : Nat)).before a0 Z = true := hw _ (List.mem_of_getElem? (i := 10) rfl)
theorem wd11 {Z : State} {a0 : Array Value} (hw : ∀ d ∈ tables_1, d.before a0 Z = true) : (Jvm.Cond.methodLink "java/lang/String" (1018 : Nat) ({ cls := "java/lang/StringLatin1", name := "toBytes", desc := "(C)[B" } : Jvm.MethodName)).before a0 Z = true := hw _ (List.mem_of_getElem? (i := 11) rfl)
theorem wd12 {Z : State} {a0 : Array Value} (hw : ∀ d ∈ tables_1, d.before a0 Z = true) : (Jvm.Cond.static ({ cls := "java/lang/StringLatin1", name := "toBytes", desc := "(C)[B" } : Jvm.MethodName)).before a0 Z = true := hw _ (List.mem_of_getElem? (i := 12) rfl)
theorem wd13 {Z : State} {a0 : Array Value} (hw : ∀ d ∈ tables_1, d.before a0 Z = true) : (Jvm.Cond.code ({ cls := "java/lang/StringLatin1", name := "toBytes", desc := "(C)[B" } : Jvm.MethodName) jdk_43_method_46_code (1 : Nat) (Option.some (Jvm.ClassFile.FieldType.array Jvm.ClassFile.FieldType.byte))).before a0 Z = true := hw _ (List.mem_of_getElem? (i := 13) rfl)
theorem wd14 {Z : State} {a0 : Array Value} (hw : ∀ d ∈ tables_1, d.before a0 Z = true) : (Jvm.Cond.arrayClass Jvm.ClassFile.FieldType.byte).before a0 Z = true := hw _ (List.mem_of_getElem? (i := 14) rfl)
theorem wd15 {Z : State} {a0 : Array Value} (hw : ∀ d ∈ tables_1, d.before a0 Z = true) : (Jvm.Cond.methodLink "java/lang/String" (209 : Nat) ({ cls := "java/lang/String", name := "<init>", desc := "([BB)V" } : Jvm.MethodName)).before a0 Z = true := hw _ (List.mem_of_getElem? (i := 15) rfl)
theorem wd16 {Z : State} {a0 : Array Value} (hw : ∀ d ∈ tables_1, d.before a0 Z = true) : (Jvm.Cond.instanceMethod ({ cls := "java/lang/String", name := "<init>", desc := "([BB)V" } : Jvm.MethodName)).before a0 Z = true := hw _ (List.mem_of_getElem? (i := 16) rfl)
theorem wd18 {Z : State} {a0 : Array Value} (hw : ∀ d ∈ tables_1, d.before a0 Z = true) : (Jvm.Cond.code ({ cls := "java/lang/String", name := "<init>", desc := "([BB)V" } : Jvm.MethodName) jdk_42_method_151_code (3 : Nat) (Option.none : Option Jvm.ClassFile.FieldType)).before a0 Z = true := hw _ (List.mem_of_getElem? (i := 18) rfl)
theorem wd19 {Z : State} {a0 : Array Value} (hw : ∀ d ∈ tables_1, d.before a0 Z = true) : (Jvm.Cond.methodLink "java/lang/String" (1 : Nat) ({ cls := "java/lang/Object", name := "<init>", desc := "()V" } : Jvm.MethodName)).before a0 Z = true := hw _ (List.mem_of_getElem? (i := 19) rfl)
theorem wd20 {Z : State} {a0 : Array Value} (hw : ∀ d ∈ tables_1, d.before a0 Z = true) : (Jvm.Cond.instanceMethod ({ cls := "java/lang/Object", name := "<init>", desc := "()V" } : Jvm.MethodName)).before a0 Z = true := hw _ (List.mem_of_getElem? (i := 20) rfl)
theorem wd21 {Z : State} {a0 : Array Value} (hw : ∀ d ∈ tables_1, d.before a0 Z = true) : (Jvm.Cond.code ({ cls := "java/lang/Object", name := "<init>", desc := "()V" } : Jvm.MethodName) object_method_1_code (1 : Nat) (Option.none : Option Jvm.ClassFile.FieldType)).before a0 Z = true := hw _ (List.mem_of_getElem? (i := 21) rfl)
theorem wd22 {Z : State} {a0 : Array Value} (hw : ∀ d ∈ tables_1, d.before a0 Z = true) : (Jvm.Cond.fieldLink "java/lang/String" (9 : Nat) "java/lang/String" "value" "[B").before a0 Z = true := hw _ (List.mem_of_getElem? (i := 22) rfl)
theorem wd23 {Z : State} {a0 : Array Value} (hw : ∀ d ∈ tables_1, d.before a0 Z = true) : (Jvm.Cond.laysFinal "java/lang/String" "java/lang/String" "value" "[B").before a0 Z = true := hw _ (List.mem_of_getElem? (i := 23) rfl)
theorem wd24 {Z : State} {a0 : Array Value} (hw : ∀ d ∈ tables_1, d.before a0 Z = true) : (Jvm.Cond.fieldLink "java/lang/String" (15 : Nat) "java/lang/String" "coder" "B").before a0 Z = true := hw _ (List.mem_of_getElem? (i := 24) rfl)
theorem wd25 {Z : State} {a0 : Array Value} (hw : ∀ d ∈ tables_1, d.before a0 Z = true) : (Jvm.Cond.laysFinal "java/lang/String" "java/lang/String" "coder" "B").before a0 Z = true := hw _ (List.mem_of_getElem? (i := 25) rfl)
theorem wd26 {Z : State} {a0 : Array Value} (hw : ∀ d ∈ tables_1, d.before a0 Z = true) : (Jvm.Cond.arrayClass Jvm.ClassFile.FieldType.char).before a0 Z = true := hw _ (List.mem_of_getElem? (i := 26) rfl)
theorem wd27 {Z : State} {a0 : Array Value} (hw : ∀ d ∈ tables_1, d.before a0 Z = true) : (Jvm.Cond.classLink "com/example/treegraft/treegraft/brackets/BracketIsWordPinLaw" (8 : Nat) "java/lang/String").before a0 Z = true := hw _ (List.mem_of_getElem? (i := 27) rfl)
theorem wd28 {Z : State} {a0 : Array Value} (hw : ∀ d ∈ tables_1, d.before a0 Z = true) : (Jvm.Cond.methodLink "com/example/treegraft/treegraft/brackets/BracketIsWordPinLaw" (13 : Nat) ({ cls := "java/lang/String", name := "<init>", desc := "([C)V" } : Jvm.MethodName)).before a0 Z = true := hw _ (List.mem_of_getElem? (i := 28) rfl)
theorem wd29 {Z : State} {a0 : Array Value} (hw : ∀ d ∈ tables_1, d.before a0 Z = true) : (Jvm.Cond.instanceMethod ({ cls := "java/lang/String", name := "<init>", desc := "([C)V" } : Jvm.MethodName)).before a0 Z = true := hw _ (List.mem_of_getElem? (i := 29) rfl)
theorem wd30 {Z : State} {a0 : Array Value} (hw : ∀ d ∈ tables_1, d.before a0 Z = true) : (Jvm.Cond.code ({ cls := "java/lang/String", name := "<init>", desc := "([C)V" } : Jvm.MethodName) jdk_42_method_3_code (2 : Nat) (Option.none : Option Jvm.ClassFile.FieldType)).before a0 Z = true := hw _ (List.mem_of_getElem? (i := 30) rfl)
theorem wd31 {Z : State} {a0 : Array Value} (hw : ∀ d ∈ tables_1, d.before a0 Z = true) : (Jvm.Cond.methodLink "java/lang/String" (27 : Nat) ({ cls := "java/lang/String", name := "<init>", desc := "([CIILjava/lang/Void;)V" } : Jvm.MethodName)).before a0 Z = true := hw _ (List.mem_of_getElem? (i := 31) rfl)
theorem wd32 {Z : State} {a0 : Array Value} (hw : ∀ d ∈ tables_1, d.before a0 Z = true) : (Jvm.Cond.instanceMethod ({ cls := "java/lang/String", name := "<init>", desc := "([CIILjava/lang/Void;)V" } : Jvm.MethodName)).before a0 Z = true := hw _ (List.mem_of_getElem? (i := 32) rfl)
theorem wd33 {Z : State} {a0 : Array Value} (hw : ∀ d ∈ tables_1, d.before a0 Z = true) : (Jvm.Cond.code ({ cls := "java/lang/String", name := "<init>", desc := "([CIILjava/lang/Void;)V" } : Jvm.MethodName) jdk_42_method_149_code (6 : Nat) (Option.none : Option Jvm.ClassFile.FieldType)).before a0 Z = true := hw _ (List.mem_of_getElem? (i := 33) rfl)
theorem wd44 {Z : State} {a0 : Array Value} (hw : ∀ d ∈ tables_1, d.before a0 Z = true) : (Jvm.Cond.classLink "com/example/treegraft/treegraft/brackets/BracketIsWordPinLaw" (16 : Nat) "java/util/ArrayList").before a0 Z = true := hw _ (List.mem_of_getElem? (i := 44) rfl)
theorem wd45 {Z : State} {a0 : Array Value} (hw : ∀ d ∈ tables_1, d.before a0 Z = true) : (Jvm.Cond.instantiable "java/util/ArrayList" (3 : Nat)).before a0 Z = true := hw _ (List.mem_of_getElem? (i := 45) rfl)
theorem wd46 {Z : State} {a0 : Array Value} (hw : ∀ d ∈ tables_1, d.before a0 Z = true) : (Jvm.Cond.initialized "java/util/ArrayList").before a0 Z = true := hw _ (List.mem_of_getElem? (i := 46) rfl)
theorem wd47 {Z : State} {a0 : Array Value} (hw : ∀ d ∈ tables_1, d.before a0 Z = true) : (Jvm.Cond.methodLink "com/example/treegraft/treegraft/brackets/BracketIsWordPinLaw" (18 : Nat) ({ cls := "java/util/ArrayList", name := "<init>", desc := "()V" } : Jvm.MethodName)).before a0 Z = true := hw _ (List.mem_of_getElem? (i := 47) rfl)
theorem wd48 {Z : State} {a0 : Array Value} (hw : ∀ d ∈ tables_1, d.before a0 Z = true) : (Jvm.Cond.instanceMethod ({ cls := "java/util/ArrayList", name := "<init>", desc := "()V" } : Jvm.MethodName)).before a0 Z = true := hw _ (List.mem_of_getElem? (i := 48) rfl)
theorem wd49 {Z : State} {a0 : Array Value} (hw : ∀ d ∈ tables_1, d.before a0 Z = true) : (Jvm.Cond.code ({ cls := "java/util/ArrayList", name := "<init>", desc := "()V" } : Jvm.MethodName) jdk_38_method_2_code (1 : Nat) (Option.none : Option Jvm.ClassFile.FieldType)).before a0 Z = true := hw _ (List.mem_of_getElem? (i := 49) rfl)
theorem wd50 {Z : State} {a0 : Array Value} (hw : ∀ d ∈ tables_1, d.before a0 Z = true) : (Jvm.Cond.methodLink "java/util/ArrayList" (1 : Nat) ({ cls := "java/util/AbstractList", name := "<init>", desc := "()V" } : Jvm.MethodName)).before a0 Z = true := hw _ (List.mem_of_getElem? (i := 50) rfl)
theorem wd51 {Z : State} {a0 : Array Value} (hw : ∀ d ∈ tables_1, d.before a0 Z = true) : (Jvm.Cond.instanceMethod ({ cls := "java/util/AbstractList", name := "<init>", desc := "()V" } : Jvm.MethodName)).before a0 Z = true := hw _ (List.mem_of_getElem? (i := 51) rfl)
theorem wd54 {Z : State} {a0 : Array Value} (hw : ∀ d ∈ tables_1, d.before a0 Z = true) : (Jvm.Cond.initialized "java/util/AbstractList").before a0 Z = true := hw _ (List.mem_of_getElem? (i := 54) rfl)
theorem wd55 {Z : State} {a0 : Array Value} (hw : ∀ d ∈ tables_1, d.before a0 Z = true) : (Jvm.Cond.code ({ cls := "java/util/AbstractList", name := "<init>", desc := "()V" } : Jvm.MethodName) jdk_39_method_1_code (1 : Nat) (Option.none : Option Jvm.ClassFile.FieldType)).before a0 Z = true := hw _ (List.mem_of_getElem? (i := 55) rfl)
theorem wd56 {Z : State} {a0 : Array Value} (hw : ∀ d ∈ tables_1, d.before a0 Z = true) : (Jvm.Cond.methodLink "java/util/AbstractList" (1 : Nat) ({ cls := "java/util/AbstractCollection", name := "<init>", desc := "()V" } : Jvm.MethodName)).before a0 Z = true := hw _ (List.mem_of_getElem? (i := 56) rfl)
theorem wd57 {Z : State} {a0 : Array Value} (hw : ∀ d ∈ tables_1, d.before a0 Z = true) : (Jvm.Cond.instanceMethod ({ cls := "java/util/AbstractCollection", name := "<init>", desc := "()V" } : Jvm.MethodName)).before a0 Z = true := hw _ (List.mem_of_getElem? (i := 57) rfl)
theorem wd60 {Z : State} {a0 : Array Value} (hw : ∀ d ∈ tables_1, d.before a0 Z = true) : (Jvm.Cond.initialized "java/util/AbstractCollection").before a0 Z = true := hw _ (List.mem_of_getElem? (i := 60) rfl)
theorem wd61 {Z : State} {a0 : Array Value} (hw : ∀ d ∈ tables_1, d.before a0 Z = true) : (Jvm.Cond.code ({ cls := "java/util/AbstractCollection", name := "<init>", desc := "()V" } : Jvm.MethodName) jdk_22_method_1_code (1 : Nat) (Option.none : Option Jvm.ClassFile.FieldType)).before a0 Z = true := hw _ (List.mem_of_getElem? (i := 61) rfl)
theorem wd62 {Z : State} {a0 : Array Value} (hw : ∀ d ∈ tables_1, d.before a0 Z = true) : (Jvm.Cond.methodLink "java/util/AbstractCollection" (1 : Nat) ({ cls := "java/lang/Object", name := "<init>", desc := "()V" } : Jvm.MethodName)).before a0 Z = true := hw _ (List.mem_of_getElem? (i := 62) rfl)
theorem wd63 {Z : State} {a0 : Array Value} (hw : ∀ d ∈ tables_1, d.before a0 Z = true) : (Jvm.Cond.fieldLink "java/util/AbstractList" (7 : Nat) "java/util/AbstractList" "modCount" "I").before a0 Z = true := hw _ (List.mem_of_getElem? (i := 63) rfl)
theorem wd64 {Z : State} {a0 : Array Value} (hw : ∀ d ∈ tables_1, d.before a0 Z = true) : (Jvm.Cond.lays "java/util/ArrayList" "java/util/AbstractList" "modCount" "I").before a0 Z = true := hw _ (List.mem_of_getElem? (i := 64) rfl)
theorem wd65 {Z : State} {a0 : Array Value} (hw : ∀ d ∈ tables_1, d.before a0 Z = true) : (Jvm.Cond.fieldLink "java/util/ArrayList" (39 : Nat) "java/util/ArrayList" "DEFAULTCAPACITY_EMPTY_ELEMENTDATA" "[Ljava/lang/Object;").before a0 Z = true := hw _ (List.mem_of_getElem? (i := 65) rfl)
theorem wd66 {Z : State} {a0 : Array Value} (hw : ∀ d ∈ tables_1, d.before a0 Z = true) : (Jvm.Cond.fieldLink "java/util/ArrayList" (9 : Nat) "java/util/ArrayList" "elementData" "[Ljava/lang/Object;").before a0 Z = true := hw _ (List.mem_of_getElem? (i := 66) rfl)
theorem wd67 {Z : State} {a0 : Array Value} (hw : ∀ d ∈ tables_1, d.before a0 Z = true) : (Jvm.Cond.lays "java/util/ArrayList" "java/util/ArrayList" "elementData" "[Ljava/lang/Object;").before a0 Z = true := hw _ (List.mem_of_getElem? (i := 67) rfl)
theorem wd68 {Z : State} {a0 : Array Value} (hw : ∀ d ∈ tables_1, d.before a0 Z = true) : (Jvm.Cond.classLink "com/example/treegraft/treegraft/brackets/BracketIsWordPinLaw" (19 : Nat) "com/example/treegraft/treegraft/brackets/Atom").before a0 Z = true := hw _ (List.mem_of_getElem? (i := 68) rfl)
theorem wd69 {Z : State} {a0 : Array Value} (hw : ∀ d ∈ tables_1, d.before a0 Z = true) : (Jvm.Cond.instantiable "com/example/treegraft/treegraft/brackets/Atom" (2 : Nat)).before a0 Z = true := hw _ (List.mem_of_getElem? (i := 69) rfl)
theorem wd70 {Z : State} {a0 : Array Value} (hw : ∀ d ∈ tables_1, d.before a0 Z = true) : (Jvm.Cond.initialized "com/example/treegraft/treegraft/brackets/Atom").before a0 Z = true := hw _ (List.mem_of_getElem? (i := 70) rfl)
theorem wd71 {Z : State} {a0 : Array Value} (hw : ∀ d ∈ tables_1, d.before a0 Z = true) : (Jvm.Cond.methodLink "com/example/treegraft/treegraft/brackets/BracketIsWordPinLaw" (21 : Nat) ({ cls := "com/example/treegraft/treegraft/brackets/Atom", name := "<init>", desc := "(Ljava/lang/String;I)V" } : Jvm.MethodName)).before a0 Z = true := hw _ (List.mem_of_getElem? (i := 71) rfl)
theorem wd72 {Z : State} {a0 : Array Value} (hw : ∀ d ∈ tables_1, d.before a0 Z = true) : (Jvm.Cond.instanceMethod ({ cls := "com/example/treegraft/treegraft/brackets/Atom", name := "<init>", desc := "(Ljava/lang/String;I)V" } : Jvm.MethodName)).before a0 Z = true := hw _ (List.mem_of_getElem? (i := 72) rfl)
theorem wd73 {Z : State} {a0 : Array Value} (hw : ∀ d ∈ tables_1, d.before a0 Z = true) : (Jvm.Cond.code ({ cls := "com/example/treegraft/treegraft/brackets/Atom", name := "<init>", desc := "(Ljava/lang/String;I)V" } : Jvm.MethodName) prog_5_method_1_code (3 : Nat) (Option.none : Option Jvm.ClassFile.FieldType)).before a0 Z = true := hw _ (List.mem_of_getElem? (i := 73) rfl)
theorem wd74 {Z : State} {a0 : Array Value} (hw : ∀ d ∈ tables_1, d.before a0 Z = true) : (Jvm.Cond.methodLink "com/example/treegraft/treegraft/brackets/Atom" (1 : Nat) ({ cls := "java/lang/Record", name := "<init>", desc := "()V" } : Jvm.MethodName)).before a0 Z = true := hw _ (List.mem_of_getElem? (i := 74) rfl)
theorem wd75 {Z : State} {a0 : Array Value} (hw : ∀ d ∈ tables_1, d.before a0 Z = true) : (Jvm.Cond.instanceMethod ({ cls := "java/lang/Record", name := "<init>", desc := "()V" } : Jvm.MethodName)).before a0 Z = true := hw _ (List.mem_of_getElem? (i := 75) rfl)
theorem wd77 {Z : State} {a0 : Array Value} (hw : ∀ d ∈ tables_1, d.before a0 Z = true) : (Jvm.Cond.initialized "java/lang/Record").before a0 Z = true := hw _ (List.mem_of_getElem? (i := 77) rfl)
theorem wd78 {Z : State} {a0 : Array Value} (hw : ∀ d ∈ tables_1, d.before a0 Z = true) : (Jvm.Cond.code ({ cls := "java/lang/Record", name := "<init>", desc := "()V" } : Jvm.MethodName) jdk_30_method_1_code (1 : Nat) (Option.none : Option Jvm.ClassFile.FieldType)).before a0 Z = true := hw _ (List.mem_of_getElem? (i := 78) rfl)
theorem wd79 {Z : State} {a0 : Array Value} (hw : ∀ d ∈ tables_1, d.before a0 Z = true) : (Jvm.Cond.methodLink "java/lang/Record" (1 : Nat) ({ cls := "java/lang/Object", name := "<init>", desc := "()V" } : Jvm.MethodName)).before a0 Z = true := hw _ (List.mem_of_getElem? (i := 79) rfl)
theorem wd80 {Z : State} {a0 : Array Value} (hw : ∀ d ∈ tables_1, d.before a0 Z = true) : (Jvm.Cond.fieldLink "com/example/treegraft/treegraft/brackets/Atom" (7 : Nat) "com/example/treegraft/treegraft/brackets/Atom" "text" "Ljava/lang/String;").before a0 Z = true := hw _ (List.mem_of_getElem? (i := 80) rfl)
theorem wd81 {Z : State} {a0 : Array Value} (hw : ∀ d ∈ tables_1, d.before a0 Z = true) : (Jvm.Cond.laysFinal "com/example/treegraft/treegraft/brackets/Atom" "com/example/treegraft/treegraft/brackets/Atom" "text" "Ljava/lang/String;").before a0 Z = true := hw _ (List.mem_of_getElem? (i := 81) rfl)
theorem wd82 {Z : State} {a0 : Array Value} (hw : ∀ d ∈ tables_1, d.before a0 Z = true) : (Jvm.Cond.fieldLink "com/example/treegraft/treegraft/brackets/Atom" (13 : Nat) "com/example/treegraft/treegraft/brackets/Atom" "line" "I").before a0 Z = true := hw _ (List.mem_of_getElem? (i := 82) rfl)
theorem wd83 {Z : State} {a0 : Array Value} (hw : ∀ d ∈ tables_1, d.before a0 Z = true) : (Jvm.Cond.laysFinal "com/example/treegraft/treegraft/brackets/Atom" "com/example/treegraft/treegraft/brackets/Atom" "line" "I").before a0 Z = true := hw _ (List.mem_of_getElem? (i := 83) rfl)
theorem wd84 {Z : State} {a0 : Array Value} (hw : ∀ d ∈ tables_1, d.before a0 Z = true) : (Jvm.Cond.methodLink "com/example/treegraft/treegraft/brackets/BracketIsWordPinLaw" (24 : Nat) ({ cls := "java/util/ArrayList", name := "add", desc := "(Ljava/lang/Object;)Z" } : Jvm.MethodName)).before a0 Z = true := hw _ (List.mem_of_getElem? (i := 84) rfl)
theorem wd85 {Z : State} {a0 : Array Value} (hw : ∀ d ∈ tables_1, d.before a0 Z = true) : (Jvm.Cond.declares ({ cls := "java/util/ArrayList", name := "add", desc := "(Ljava/lang/Object;)Z" } : Jvm.MethodName)).before a0 Z = true := hw _ (List.mem_of_getElem? (i := 85) rfl)
theorem wd86 {Z : State} {a0 : Array Value} (hw : ∀ d ∈ tables_1, d.before a0 Z = true) : (Jvm.Cond.instanceMethod ({ cls := "java/util/ArrayList", name := "add", desc := "(Ljava/lang/Object;)Z" } : Jvm.MethodName)).before a0 Z = true := hw _ (List.mem_of_getElem? (i := 86) rfl)
theorem wd87 {Z : State} {a0 : Array Value} (hw : ∀ d ∈ tables_1, d.before a0 Z = true) : (Jvm.Cond.selects "java/util/ArrayList" ({ cls := "java/util/ArrayList", name := "add", desc := "(Ljava/lang/Object;)Z" } : Jvm.MethodName) ({ cls := "java/util/ArrayList", name := "add", desc := "(Ljava/lang/Object;)Z" } : Jvm.MethodName)).before a0 Z = true := hw _ (List.mem_of_getElem? (i := 87) rfl)
theorem wd88 {Z : State} {a0 : Array Value} (hw : ∀ d ∈ tables_1, d.before a0 Z = true) : (Jvm.Cond.code ({ cls := "java/util/ArrayList", name := "add", desc := "(Ljava/lang/Object;)Z" } : Jvm.MethodName) jdk_38_method_25_code (2 : Nat) (Option.some Jvm.ClassFile.FieldType.boolean)).before a0 Z = true := hw _ (List.mem_of_getElem? (i := 88) rfl)
theorem wd89 {Z : State} {a0 : Array Value} (hw : ∀ d ∈ tables_1, d.before a0 Z = true) : (Jvm.Cond.fieldLink "java/util/ArrayList" (63 : Nat) "java/util/ArrayList" "modCount" "I").before a0 Z = true := hw _ (List.mem_of_getElem? (i := 89) rfl)
theorem wd90 {Z : State} {a0 : Array Value} (hw : ∀ d ∈ tables_1, d.before a0 Z = true) : (Jvm.Cond.sameField "java/util/ArrayList" "java/util/AbstractList" "modCount" "I").before a0 Z = true := hw _ (List.mem_of_getElem? (i := 90) rfl)
theorem wd91 {Z : State} {a0 : Array Value} (hw : ∀ d ∈ tables_1, d.before a0 Z = true) : (Jvm.Cond.fieldLink "java/util/ArrayList" (48 : Nat) "java/util/ArrayList" "size" "I").before a0 Z = true := hw _ (List.mem_of_getElem? (i := 91) rfl)
theorem wd92 {Z : State} {a0 : Array Value} (hw : ∀ d ∈ tables_1, d.before a0 Z = true) : (Jvm.Cond.lays "java/util/ArrayList" "java/util/ArrayList" "size" "I").before a0 Z = true := hw _ (List.mem_of_getElem? (i := 92) rfl)
theorem wd93 {Z : State} {a0 : Array Value} (hw : ∀ d ∈ tables_1, d.before a0 Z = true) : (Jvm.Cond.methodLink "java/util/ArrayList" (131 : Nat) ({ cls := "java/util/ArrayList", name := "add", desc := "(Ljava/lang/Object;[Ljava/lang/Object;I)V" } : Jvm.MethodName)).before a0 Z = true := hw _ (List.mem_of_getElem? (i := 93) rfl)
theorem wd94 {Z : State} {a0 : Array Value} (hw : ∀ d ∈ tables_1, d.before a0 Z = true) : (Jvm.Cond.instanceMethod ({ cls := "java/util/ArrayList", name := "add", desc := "(Ljava/lang/Object;[Ljava/lang/Object;I)V" } : Jvm.MethodName)).before a0 Z = true := hw _ (List.mem_of_getElem? (i := 94) rfl)
theorem wd95 {Z : State} {a0 : Array Value} (hw : ∀ d ∈ tables_1, d.before a0 Z = true) : (Jvm.Cond.privateMethod ({ cls := "java/util/ArrayList", name := "add", desc := "(Ljava/lang/Object;[Ljava/lang/Object;I)V" } : Jvm.MethodName)).before a0 Z = true := hw _ (List.mem_of_getElem? (i := 95) rfl)
theorem wd96 {Z : State} {a0 : Array Value} (hw : ∀ d ∈ tables_1, d.before a0 Z = true) : (Jvm.Cond.selects "java/util/ArrayList" ({ cls := "java/util/ArrayList", name := "add", desc := "(Ljava/lang/Object;[Ljava/lang/Object;I)V" } : Jvm.MethodName) ({ cls := "java/util/ArrayList", name := "add", desc := "(Ljava/lang/Object;[Ljava/lang/Object;I)V" } : Jvm.MethodName)).before a0 Z = true := hw _ (List.mem_of_getElem? (i := 96) rfl)
theorem wd97 {Z : State} {a0 : Array Value} (hw : ∀ d ∈ tables_1, d.before a0 Z = true) : (Jvm.Cond.code ({ cls := "java/util/ArrayList", name := "add", desc := "(Ljava/lang/Object;[Ljava/lang/Object;I)V" } : Jvm.MethodName) jdk_38_method_24_code (4 : Nat) (Option.none : Option Jvm.ClassFile.FieldType)).before a0 Z = true := hw _ (List.mem_of_getElem? (i := 97) rfl)
theorem wd98 {Z : State} {a0 : Array Value} (hw : ∀ d ∈ tables_1, d.before a0 Z = true) : (Jvm.Cond.methodLink "java/util/ArrayList" (129 : Nat) ({ cls := "java/util/ArrayList", name := "grow", desc := "()[Ljava/lang/Object;" } : Jvm.MethodName)).before a0 Z = true := hw _ (List.mem_of_getElem? (i := 98) rfl)
theorem wd99 {Z : State} {a0 : Array Value} (hw : ∀ d ∈ tables_1, d.before a0 Z = true) : (Jvm.Cond.instanceMethod ({ cls := "java/util/ArrayList", name := "grow", desc := "()[Ljava/lang/Object;" } : Jvm.MethodName)).before a0 Z = true := hw _ (List.mem_of_getElem? (i := 99) rfl)
theorem wd100 {Z : State} {a0 : Array Value} (hw : ∀ d ∈ tables_1, d.before a0 Z = true) : (Jvm.Cond.privateMethod ({ cls := "java/util/ArrayList", name := "grow", desc := "()[Ljava/lang/Object;" } : Jvm.MethodName)).before a0 Z = true := hw _ (List.mem_of_getElem? (i := 100) rfl)
theorem wd101 {Z : State} {a0 : Array Value} (hw : ∀ d ∈ tables_1, d.before a0 Z = true) : (Jvm.Cond.selects "java/util/ArrayList" ({ cls := "java/util/ArrayList", name := "grow", desc := "()[Ljava/lang/Object;" } : Jvm.MethodName) ({ cls := "java/util/ArrayList", name := "grow", desc := "()[Ljava/lang/Object;" } : Jvm.MethodName)).before a0 Z = true := hw _ (List.mem_of_getElem? (i := 101) rfl)
theorem wd102 {Z : State} {a0 : Array Value} (hw : ∀ d ∈ tables_1, d.before a0 Z = true) : (Jvm.Cond.code ({ cls := "java/util/ArrayList", name := "grow", desc := "()[Ljava/lang/Object;" } : Jvm.MethodName) jdk_38_method_7_code (1 : Nat) (Option.some (Jvm.ClassFile.FieldType.array (Jvm.ClassFile.FieldType.object "java/lang/Object")))).before a0 Z = true := hw _ (List.mem_of_getElem? (i := 102) rfl)
theorem wd103 {Z : State} {a0 : Array Value} (hw : ∀ d ∈ tables_1, d.before a0 Z = true) : (Jvm.Cond.methodLink "java/util/ArrayList" (69 : Nat) ({ cls := "java/util/ArrayList", name := "grow", desc := "(I)[Ljava/lang/Object;" } : Jvm.MethodName)).before a0 Z = true := hw _ (List.mem_of_getElem? (i := 103) rfl)
theorem wd104 {Z : State} {a0 : Array Value} (hw : ∀ d ∈ tables_1, d.before a0 Z = true) : (Jvm.Cond.instanceMethod ({ cls := "java/util/ArrayList", name := "grow", desc := "(I)[Ljava/lang/Object;" } : Jvm.MethodName)).before a0 Z = true := hw _ (List.mem_of_getElem? (i := 104) rfl)
theorem wd105 {Z : State} {a0 : Array Value} (hw : ∀ d ∈ tables_1, d.before a0 Z = true) : (Jvm.Cond.privateMethod ({ cls := "java/util/ArrayList", name := "grow", desc := "(I)[Ljava/lang/Object;" } : Jvm.MethodName)).before a0 Z = true := hw _ (List.mem_of_getElem? (i := 105) rfl)
theorem wd106 {Z : State} {a0 : Array Value} (hw : ∀ d ∈ tables_1, d.before a0 Z = true) : (Jvm.Cond.selects "java/util/ArrayList" ({ cls := "java/util/ArrayList", name := "grow", desc := "(I)[Ljava/lang/Object;" } : Jvm.MethodName) ({ cls := "java/util/ArrayList", name := "grow", desc := "(I)[Ljava/lang/Object;" } : Jvm.MethodName)).before a0 Z = true := hw _ (List.mem_of_getElem? (i := 106) rfl)
theorem wd107 {Z : State} {a0 : Array Value} (hw : ∀ d ∈ tables_1, d.before a0 Z = true) : (Jvm.Cond.code ({ cls := "java/util/ArrayList", name := "grow", desc := "(I)[Ljava/lang/Object;" } : Jvm.MethodName) jdk_38_method_6_code (4 : Nat) (Option.some (Jvm.ClassFile.FieldType.array (Jvm.ClassFile.FieldType.object "java/lang/Object")))).before a0 Z = true := hw _ (List.mem_of_getElem? (i := 107) rfl)
theorem wd108 {Z : State} {a0 : Array Value} (hw : ∀ d ∈ tables_1, d.before a0 Z = true) : (Jvm.Cond.methodLink "java/util/ArrayList" (79 : Nat) ({ cls := "java/lang/Math", name := "max", desc := "(II)I" } : Jvm.MethodName)).before a0 Z = true := hw _ (List.mem_of_getElem? (i := 108) rfl)
theorem wd109 {Z : State} {a0 : Array Value} (hw : ∀ d ∈ tables_1, d.before a0 Z = true) : (Jvm.Cond.static ({ cls := "java/lang/Math", name := "max", desc := "(II)I" } : Jvm.MethodName)).before a0 Z = true := hw _ (List.mem_of_getElem? (i := 109) rfl)
theorem wd110 {Z : State} {a0 : Array Value} (hw : ∀ d ∈ tables_1, d.before a0 Z = true) : (Jvm.Cond.initialized "java/lang/Math").before a0 Z = true := hw _ (List.mem_of_getElem? (i := 110) rfl)
theorem wd111 {Z : State} {a0 : Array Value} (hw : ∀ d ∈ tables_1, d.before a0 Z = true) : (Jvm.Cond.code ({ cls := "java/lang/Math", name := "max", desc := "(II)I" } : Jvm.MethodName) jdk_29_method_65_code (2 : Nat) (Option.some Jvm.ClassFile.FieldType.int)).before a0 Z = true := hw _ (List.mem_of_getElem? (i := 111) rfl)
theorem wd112 {Z : State} {a0 : Array Value} (hw : ∀ d ∈ tables_1, d.before a0 Z = true) : (Jvm.Cond.classLink "java/util/ArrayList" (7 : Nat) "java/lang/Object").before a0 Z = true := hw _ (List.mem_of_getElem? (i := 112) rfl)
theorem wd113 {Z : State} {a0 : Array Value} (hw : ∀ d ∈ tables_1, d.before a0 Z = true) : (Jvm.Cond.arrayOver (Jvm.ClassFile.FieldType.object "java/lang/Object")).before a0 Z = true := hw _ (List.mem_of_getElem? (i := 113) rfl)
theorem wd114 {Z : State} {a0 : Array Value} (hw : ∀ d ∈ tables_1, d.before a0 Z = true) : (Jvm.Cond.castable "com/example/treegraft/treegraft/brackets/Atom" "java/lang/Object").before a0 Z = true := hw _ (List.mem_of_getElem? (i := 114) rfl)
theorem wd115 {Z : State} {a0 : Array Value} (hw : ∀ d ∈ tables_1, d.before a0 Z = true) : (Jvm.Cond.classLink "com/example/treegraft/treegraft/brackets/BracketIsWordPinLaw" (28 : Nat) "com/example/treegraft/treegraft/brackets/Bracket").before a0 Z = true := hw _ (List.mem_of_getElem? (i := 115) rfl)
theorem wd116 {Z : State} {a0 : Array Value} (hw : ∀ d ∈ tables_1, d.before a0 Z = true) : (Jvm.Cond.instantiable "com/example/treegraft/treegraft/brackets/Bracket" (4 : Nat)).before a0 Z = true := hw _ (List.mem_of_getElem? (i := 116) rfl)
theorem wd117 {Z : State} {a0 : Array Value} (hw : ∀ d ∈ tables_1, d.before a0 Z = true) : (Jvm.Cond.initialized "com/example/treegraft/treegraft/brackets/Bracket").before a0 Z = true := hw _ (List.mem_of_getElem? (i := 117) rfl)
theorem wd118 {Z : State} {a0 : Array Value} (hw : ∀ d ∈ tables_1, d.before a0 Z = true) : (Jvm.Cond.methodLink "com/example/treegraft/treegraft/brackets/BracketIsWordPinLaw" (30 : Nat) ({ cls := "com/example/treegraft/treegraft/brackets/Bracket", name := "<init>", desc := "(Ljava/lang/String;Ljava/lang/String;Ljava/util/List;I)V" } : Jvm.MethodName)).before a0 Z = true := hw _ (List.mem_of_getElem? (i := 118) rfl)
theorem wd119 {Z : State} {a0 : Array Value} (hw : ∀ d ∈ tables_1, d.before a0 Z = true) : (Jvm.Cond.instanceMethod ({ cls := "com/example/treegraft/treegraft/brackets/Bracket", name := "<init>", desc := "(Ljava/lang/String;Ljava/lang/String;Ljava/util/List;I)V" } : Jvm.MethodName)).before a0 Z = true := hw _ (List.mem_of_getElem? (i := 119) rfl)
theorem wd120 {Z : State} {a0 : Array Value} (hw : ∀ d ∈ tables_1, d.before a0 Z = true) : (Jvm.Cond.code ({ cls := "com/example/treegraft/treegraft/brackets/Bracket", name := "<init>", desc := "(Ljava/lang/String;Ljava/lang/String;Ljava/util/List;I)V" } : Jvm.MethodName) prog_6_method_1_code (5 : Nat) (Option.none : Option Jvm.ClassFile.FieldType)).before a0 Z = true := hw _ (List.mem_of_getElem? (i := 120) rfl)
theorem wd121 {Z : State} {a0 : Array Value} (hw : ∀ d ∈ tables_1, d.before a0 Z = true) : (Jvm.Cond.methodLink "com/example/treegraft/treegraft/brackets/Bracket" (1 : Nat) ({ cls := "java/lang/Record", name := "<init>", desc := "()V" } : Jvm.MethodName)).before a0 Z = true := hw _ (List.mem_of_getElem? (i := 121) rfl)
theorem wd122 {Z : State} {a0 : Array Value} (hw : ∀ d ∈ tables_1, d.before a0 Z = true) : (Jvm.Cond.methodLink "com/example/treegraft/treegraft/brackets/Bracket" (7 : Nat) ({ cls := "java/util/List", name := "isEmpty", desc := "()Z" } : Jvm.MethodName)).before a0 Z = true := hw _ (List.mem_of_getElem? (i := 122) rfl)
theorem wd123 {Z : State} {a0 : Array Value} (hw : ∀ d ∈ tables_1, d.before a0 Z = true) : (Jvm.Cond.declares ({ cls := "java/util/List", name := "isEmpty", desc := "()Z" } : Jvm.MethodName)).before a0 Z = true := hw _ (List.mem_of_getElem? (i := 123) rfl)
theorem wd124 {Z : State} {a0 : Array Value} (hw : ∀ d ∈ tables_1, d.before a0 Z = true) : (Jvm.Cond.interfaceMethod "java/util/List" "java/util/List" "isEmpty" "()Z").before a0 Z = true := hw _ (List.mem_of_getElem? (i := 124) rfl)
theorem wd125 {Z : State} {a0 : Array Value} (hw : ∀ d ∈ tables_1, d.before a0 Z = true) : (Jvm.Cond.selects "java/util/ArrayList" ({ cls := "java/util/List", name := "isEmpty", desc := "()Z" } : Jvm.MethodName) ({ cls := "java/util/ArrayList", name := "isEmpty", desc := "()Z" } : Jvm.MethodName)).before a0 Z = true := hw _ (List.mem_of_getElem? (i := 125) rfl)
theorem wd126 {Z : State} {a0 : Array Value} (hw : ∀ d ∈ tables_1, d.before a0 Z = true) : (Jvm.Cond.instanceMethod ({ cls := "java/util/ArrayList", name := "isEmpty", desc := "()Z" } : Jvm.MethodName)).before a0 Z = true := hw _ (List.mem_of_getElem? (i := 126) rfl)
theorem wd127 {Z : State} {a0 : Array Value} (hw : ∀ d ∈ tables_1, d.before a0 Z = true) : (Jvm.Cond.publicMethod ({ cls := "java/util/ArrayList", name := "isEmpty", desc := "()Z" } : Jvm.MethodName)).before a0 Z = true := hw _ (List.mem_of_getElem? (i := 127) rfl)
theorem wd128 {Z : State} {a0 : Array Value} (hw : ∀ d ∈ tables_1, d.before a0 Z = true) : (Jvm.Cond.unhidden "java/util/ArrayList" "isEmpty" "()Z").before a0 Z = true := hw _ (List.mem_of_getElem? (i := 128) rfl)
theorem wd129 {Z : State} {a0 : Array Value} (hw : ∀ d ∈ tables_1, d.before a0 Z = true) : (Jvm.Cond.castable "java/util/ArrayList" "java/util/List").before a0 Z = true := hw _ (List.mem_of_getElem? (i := 129) rfl)
theorem wd130 {Z : State} {a0 : Array Value} (hw : ∀ d ∈ tables_1, d.before a0 Z = true) : (Jvm.Cond.code ({ cls := "java/util/ArrayList", name := "isEmpty", desc := "()Z" } : Jvm.MethodName) jdk_38_method_9_code (1 : Nat) (Option.some Jvm.ClassFile.FieldType.boolean)).before a0 Z = true := hw _ (List.mem_of_getElem? (i := 130) rfl)
theorem wd131 {Z : State} {a0 : Array Value} (hw : ∀ d ∈ tables_1, d.before a0 Z = true) : (Jvm.Cond.classLink "com/example/treegraft/treegraft/brackets/Bracket" (17 : Nat) "java/util/ArrayList").before a0 Z = true := hw _ (List.mem_of_getElem? (i := 131) rfl)
theorem wd132 {Z : State} {a0 : Array Value} (hw : ∀ d ∈ tables_1, d.before a0 Z = true) : (Jvm.Cond.methodLink "com/example/treegraft/treegraft/brackets/Bracket" (19 : Nat) ({ cls := "java/util/ArrayList", name := "<init>", desc := "(Ljava/util/Collection;)V" } : Jvm.MethodName)).before a0 Z = true := hw _ (List.mem_of_getElem? (i := 132) rfl)
theorem wd133 {Z : State} {a0 : Array Value} (hw : ∀ d ∈ tables_1, d.before a0 Z = true) : (Jvm.Cond.instanceMethod ({ cls := "java/util/ArrayList", name := "<init>", desc := "(Ljava/util/Collection;)V" } : Jvm.MethodName)).before a0 Z = true := hw _ (List.mem_of_getElem? (i := 133) rfl)
theorem wd134 {Z : State} {a0 : Array Value} (hw : ∀ d ∈ tables_1, d.before a0 Z = true) : (Jvm.Cond.code ({ cls := "java/util/ArrayList", name := "<init>", desc := "(Ljava/util/Collection;)V" } : Jvm.MethodName) jdk_38_method_3_code (3 : Nat) (Option.none : Option Jvm.ClassFile.FieldType)).before a0 Z = true := hw _ (List.mem_of_getElem? (i := 134) rfl)
theorem wd135 {Z : State} {a0 : Array Value} (hw : ∀ d ∈ tables_1, d.before a0 Z = true) : (Jvm.Cond.methodLink "java/util/ArrayList" (42 : Nat) ({ cls := "java/util/Collection", name := "toArray", desc := "()[Ljava/lang/Object;" } : Jvm.MethodName)).before a0 Z = true := hw _ (List.mem_of_getElem? (i := 135) rfl)
theorem wd136 {Z : State} {a0 : Array Value} (hw : ∀ d ∈ tables_1, d.before a0 Z = true) : (Jvm.Cond.declares ({ cls := "java/util/Collection", name := "toArray", desc := "()[Ljava/lang/Object;" } : Jvm.MethodName)).before a0 Z = true := hw _ (List.mem_of_getElem? (i := 136) rfl)
theorem wd137 {Z : State} {a0 : Array Value} (hw : ∀ d ∈ tables_1, d.before a0 Z = true) : (Jvm.Cond.interfaceMethod "java/util/Collection" "java/util/Collection" "toArray" "()[Ljava/lang/Object;").before a0 Z = true := hw _ (List.mem_of_getElem? (i := 137) rfl)
theorem wd138 {Z : State} {a0 : Array Value} (hw : ∀ d ∈ tables_1, d.before a0 Z = true) : (Jvm.Cond.selects "java/util/ArrayList" ({ cls := "java/util/Collection", name := "toArray", desc := "()[Ljava/lang/Object;" } : Jvm.MethodName) ({ cls := "java/util/ArrayList", name := "toArray", desc := "()[Ljava/lang/Object;" } : Jvm.MethodName)).before a0 Z = true := hw _ (List.mem_of_getElem? (i := 138) rfl)
theorem wd139 {Z : State} {a0 : Array Value} (hw : ∀ d ∈ tables_1, d.before a0 Z = true) : (Jvm.Cond.instanceMethod ({ cls := "java/util/ArrayList", name := "toArray", desc := "()[Ljava/lang/Object;" } : Jvm.MethodName)).before a0 Z = true := hw _ (List.mem_of_getElem? (i := 139) rfl)
theorem wd140 {Z : State} {a0 : Array Value} (hw : ∀ d ∈ tables_1, d.before a0 Z = true) : (Jvm.Cond.publicMethod ({ cls := "java/util/ArrayList", name := "toArray", desc := "()[Ljava/lang/Object;" } : Jvm.MethodName)).before a0 Z = true := hw _ (List.mem_of_getElem? (i := 140) rfl)
theorem wd141 {Z : State} {a0 : Array Value} (hw : ∀ d ∈ tables_1, d.before a0 Z = true) : (Jvm.Cond.unhidden "java/util/ArrayList" "toArray" "()[Ljava/lang/Object;").before a0 Z = true := hw _ (List.mem_of_getElem? (i := 141) rfl)
theorem wd142 {Z : State} {a0 : Array Value} (hw : ∀ d ∈ tables_1, d.before a0 Z = true) : (Jvm.Cond.castable "java/util/ArrayList" "java/util/Collection").before a0 Z = true := hw _ (List.mem_of_getElem? (i := 142) rfl)
theorem wd143 {Z : State} {a0 : Array Value} (hw : ∀ d ∈ tables_1, d.before a0 Z = true) : (Jvm.Cond.code ({ cls := "java/util/ArrayList", name := "toArray", desc := "()[Ljava/lang/Object;" } : Jvm.MethodName) jdk_38_method_16_code (1 : Nat) (Option.some (Jvm.ClassFile.FieldType.array (Jvm.ClassFile.FieldType.object "java/lang/Object")))).before a0 Z = true := hw _ (List.mem_of_getElem? (i := 143) rfl)
theorem wd144 {Z : State} {a0 : Array Value} (hw : ∀ d ∈ tables_1, d.before a0 Z = true) : (Jvm.Cond.methodLink "java/util/ArrayList" (66 : Nat) ({ cls := "java/util/Arrays", name := "copyOf", desc := "([Ljava/lang/Object;I)[Ljava/lang/Object;" } : Jvm.MethodName)).before a0 Z = true := hw _ (List.mem_of_getElem? (i := 144) rfl)
theorem wd145 {Z : State} {a0 : Array Value} (hw : ∀ d ∈ tables_1, d.before a0 Z = true) : (Jvm.Cond.static ({ cls := "java/util/Arrays", name := "copyOf", desc := "([Ljava/lang/Object;I)[Ljava/lang/Object;" } : Jvm.MethodName)).before a0 Z = true := hw _ (List.mem_of_getElem? (i := 145) rfl)
theorem wd146 {Z : State} {a0 : Array Value} (hw : ∀ d ∈ tables_1, d.before a0 Z = true) : (Jvm.Cond.initialized "java/util/Arrays").before a0 Z = true := hw _ (List.mem_of_getElem? (i := 146) rfl)
theorem wd147 {Z : State} {a0 : Array Value} (hw : ∀ d ∈ tables_1, d.before a0 Z = true) : (Jvm.Cond.code ({ cls := "java/util/Arrays", name := "copyOf", desc := "([Ljava/lang/Object;I)[Ljava/lang/Object;" } : Jvm.MethodName) jdk_65_method_119_code (2 : Nat) (Option.some (Jvm.ClassFile.FieldType.array (Jvm.ClassFile.FieldType.object "java/lang/Object")))).before a0 Z = true := hw _ (List.mem_of_getElem? (i := 147) rfl)
theorem wd148 {Z : State} {a0 : Array Value} (hw : ∀ d ∈ tables_1, d.before a0 Z = true) : (Jvm.Cond.methodLink "java/util/Arrays" (86 : Nat) ({ cls := "java/lang/Object", name := "getClass", desc := "()Ljava/lang/Class;" } : Jvm.MethodName)).before a0 Z = true := hw _ (List.mem_of_getElem? (i := 148) rfl)
theorem wd149 {Z : State} {a0 : Array Value} (hw : ∀ d ∈ tables_1, d.before a0 Z = true) : (Jvm.Cond.declares ({ cls := "java/lang/Object", name := "getClass", desc := "()Ljava/lang/Class;" } : Jvm.MethodName)).before a0 Z = true := hw _ (List.mem_of_getElem? (i := 149) rfl)
theorem wd150 {Z : State} {a0 : Array Value} (hw : ∀ d ∈ tables_1, d.before a0 Z = true) : (Jvm.Cond.instanceMethod ({ cls := "java/lang/Object", name := "getClass", desc := "()Ljava/lang/Class;" } : Jvm.MethodName)).before a0 Z = true := hw _ (List.mem_of_getElem? (i := 150) rfl)
theorem wd151 {Z : State} {a0 : Array Value} (hw : ∀ d ∈ tables_1, d.before a0 Z = true) : (Jvm.Cond.selects "[Ljava/lang/Object;" ({ cls := "java/lang/Object", name := "getClass", desc := "()Ljava/lang/Class;" } : Jvm.MethodName) ({ cls := "java/lang/Object", name := "getClass", desc := "()Ljava/lang/Class;" } : Jvm.MethodName)).before a0 Z = true := hw _ (List.mem_of_getElem? (i := 151) rfl)
theorem wd152 {Z : State} {a0 : Array Value} (hw : ∀ d ∈ tables_1, d.before a0 Z = true) : (Jvm.Cond.native ({ cls := "java/lang/Object", name := "getClass", desc := "()Ljava/lang/Class;" } : Jvm.MethodName)).before a0 Z = true := hw _ (List.mem_of_getElem? (i := 152) rfl)
theorem wd154 {Z : State} {a0 : Array Value} (hw : ∀ d ∈ tables_1, d.before a0 Z = true) : (Jvm.Cond.methodLink "java/util/Arrays" (300 : Nat) ({ cls := "java/util/Arrays", name := "copyOf", desc := "([Ljava/lang/Object;ILjava/lang/Class;)[Ljava/lang/Object;" } : Jvm.MethodName)).before a0 Z = true := hw _ (List.mem_of_getElem? (i := 154) rfl)
theorem wd155 {Z : State} {a0 : Array Value} (hw : ∀ d ∈ tables_1, d.before a0 Z = true) : (Jvm.Cond.static ({ cls := "java/util/Arrays", name := "copyOf", desc := "([Ljava/lang/Object;ILjava/lang/Class;)[Ljava/lang/Object;" } : Jvm.MethodName)).before a0 Z = true := hw _ (List.mem_of_getElem? (i := 155) rfl)
theorem wd156 {Z : State} {a0 : Array Value} (hw : ∀ d ∈ tables_1, d.before a0 Z = true) : (Jvm.Cond.code ({ cls := "java/util/Arrays", name := "copyOf", desc := "([Ljava/lang/Object;ILjava/lang/Class;)[Ljava/lang/Object;" } : Jvm.MethodName) jdk_65_method_120_code (4 : Nat) (Option.some (Jvm.ClassFile.FieldType.array (Jvm.ClassFile.FieldType.object "java/lang/Object")))).before a0 Z = true := hw _ (List.mem_of_getElem? (i := 156) rfl)
theorem wd157 {Z : State} {a0 : Array Value} (hw : ∀ d ∈ tables_1, d.before a0 Z = true) : (Jvm.Cond.classLink "java/util/Arrays" (110 : Nat) "[Ljava/lang/Object;").before a0 Z = true := hw _ (List.mem_of_getElem? (i := 157) rfl)
theorem wd158 {Z : State} {a0 : Array Value} (hw : ∀ d ∈ tables_1, d.before a0 Z = true) : (Jvm.Cond.classLink "java/util/Arrays" (2 : Nat) "java/lang/Object").before a0 Z = true := hw _ (List.mem_of_getElem? (i := 158) rfl)
theorem wd159 {Z : State} {a0 : Array Value} (hw : ∀ d ∈ tables_1, d.before a0 Z = true) : (Jvm.Cond.methodLink "java/util/Arrays" (304 : Nat) ({ cls := "java/lang/Math", name := "min", desc := "(II)I" } : Jvm.MethodName)).before a0 Z = true := hw _ (List.mem_of_getElem? (i := 159) rfl)
theorem wd160 {Z : State} {a0 : Array Value} (hw : ∀ d ∈ tables_1, d.before a0 Z = true) : (Jvm.Cond.static ({ cls := "java/lang/Math", name := "min", desc := "(II)I" } : Jvm.MethodName)).before a0 Z = true := hw _ (List.mem_of_getElem? (i := 160) rfl)
theorem wd161 {Z : State} {a0 : Array Value} (hw : ∀ d ∈ tables_1, d.before a0 Z = true) : (Jvm.Cond.code ({ cls := "java/lang/Math", name := "min", desc := "(II)I" } : Jvm.MethodName) jdk_29_method_69_code (2 : Nat) (Option.some Jvm.ClassFile.FieldType.int)).before a0 Z = true := hw _ (List.mem_of_getElem? (i := 161) rfl)
theorem wd162 {Z : State} {a0 : Array Value} (hw : ∀ d ∈ tables_1, d.before a0 Z = true) : (Jvm.Cond.methodLink "java/util/Arrays" (150 : Nat) ({ cls := "java/lang/System", name := "arraycopy", desc := "(Ljava/lang/Object;ILjava/lang/Object;II)V" } : Jvm.MethodName)).before a0 Z = true := hw _ (List.mem_of_getElem? (i := 162) rfl)
theorem wd163 {Z : State} {a0 : Array Value} (hw : ∀ d ∈ tables_1, d.before a0 Z = true) : (Jvm.Cond.static ({ cls := "java/lang/System", name := "arraycopy", desc := "(Ljava/lang/Object;ILjava/lang/Object;II)V" } : Jvm.MethodName)).before a0 Z = true := hw _ (List.mem_of_getElem? (i := 163) rfl)
theorem wd164 {Z : State} {a0 : Array Value} (hw : ∀ d ∈ tables_1, d.before a0 Z = true) : (Jvm.Cond.initialized "java/lang/System").before a0 Z = true := hw _ (List.mem_of_getElem? (i := 164) rfl)
theorem wd165 {Z : State} {a0 : Array Value} (hw : ∀ d ∈ tables_1, d.before a0 Z = true) : (Jvm.Cond.native ({ cls := "java/lang/System", name := "arraycopy", desc := "(Ljava/lang/Object;ILjava/lang/Object;II)V" } : Jvm.MethodName)).before a0 Z = true := hw _ (List.mem_of_getElem? (i := 165) rfl)
theorem wd166 {Z : State} {a0 : Array Value} (hw : ∀ d ∈ tables_1, d.before a0 Z = true) : (Jvm.Cond.methodLink "java/util/ArrayList" (52 : Nat) ({ cls := "java/util/Collection", name := "getClass", desc := "()Ljava/lang/Class;" } : Jvm.MethodName)).before a0 Z = true := hw _ (List.mem_of_getElem? (i := 166) rfl)
theorem wd167 {Z : State} {a0 : Array Value} (hw : ∀ d ∈ tables_1, d.before a0 Z = true) : (Jvm.Cond.interfaceMethod "java/util/Collection" "java/lang/Object" "getClass" "()Ljava/lang/Class;").before a0 Z = true := hw _ (List.mem_of_getElem? (i := 167) rfl)
theorem wd168 {Z : State} {a0 : Array Value} (hw : ∀ d ∈ tables_1, d.before a0 Z = true) : (Jvm.Cond.selects "java/util/ArrayList" ({ cls := "java/util/Collection", name := "getClass", desc := "()Ljava/lang/Class;" } : Jvm.MethodName) ({ cls := "java/lang/Object", name := "getClass", desc := "()Ljava/lang/Class;" } : Jvm.MethodName)).before a0 Z = true := hw _ (List.mem_of_getElem? (i := 168) rfl)
theorem wd169 {Z : State} {a0 : Array Value} (hw : ∀ d ∈ tables_1, d.before a0 Z = true) : (Jvm.Cond.publicMethod ({ cls := "java/lang/Object", name := "getClass", desc := "()Ljava/lang/Class;" } : Jvm.MethodName)).before a0 Z = true := hw _ (List.mem_of_getElem? (i := 169) rfl)
theorem wd170 {Z : State} {a0 : Array Value} (hw : ∀ d ∈ tables_1, d.before a0 Z = true) : (Jvm.Cond.unhidden "java/util/ArrayList" "getClass" "()Ljava/lang/Class;").before a0 Z = true := hw _ (List.mem_of_getElem? (i := 170) rfl)
theorem wd172 {Z : State} {a0 : Array Value} (hw : ∀ d ∈ tables_1, d.before a0 Z = true) : (Jvm.Cond.classLink "java/util/ArrayList" (10 : Nat) "java/util/ArrayList").before a0 Z = true := hw _ (List.mem_of_getElem? (i := 172) rfl)
theorem wd173 {Z : State} {a0 : Array Value} (hw : ∀ d ∈ tables_1, d.before a0 Z = true) : (Jvm.Cond.methodLink "com/example/treegraft/treegraft/brackets/Bracket" (22 : Nat) ({ cls := "java/util/Collections", name := "unmodifiableList", desc := "(Ljava/util/List;)Ljava/util/List;" } : Jvm.MethodName)).before a0 Z = true := hw _ (List.mem_of_getElem? (i := 173) rfl)
theorem wd174 {Z : State} {a0 : Array Value} (hw : ∀ d ∈ tables_1, d.before a0 Z = true) : (Jvm.Cond.static ({ cls := "java/util/Collections", name := "unmodifiableList", desc := "(Ljava/util/List;)Ljava/util/List;" } : Jvm.MethodName)).before a0 Z = true := hw _ (List.mem_of_getElem? (i := 174) rfl)
theorem wd175 {Z : State} {a0 : Array Value} (hw : ∀ d ∈ tables_1, d.before a0 Z = true) : (Jvm.Cond.initialized "java/util/Collections").before a0 Z = true := hw _ (List.mem_of_getElem? (i := 175) rfl)
theorem wd176 {Z : State} {a0 : Array Value} (hw : ∀ d ∈ tables_1, d.before a0 Z = true) : (Jvm.Cond.code ({ cls := "java/util/Collections", name := "unmodifiableList", desc := "(Ljava/util/List;)Ljava/util/List;" } : Jvm.MethodName) jdk_79_method_35_code (1 : Nat) (Option.some (Jvm.ClassFile.FieldType.object "java/util/List"))).before a0 Z = true := hw _ (List.mem_of_getElem? (i := 176) rfl)
theorem wd177 {Z : State} {a0 : Array Value} (hw : ∀ d ∈ tables_1, d.before a0 Z = true) : (Jvm.Cond.methodLink "java/util/Collections" (211 : Nat) ({ cls := "java/util/List", name := "getClass", desc := "()Ljava/lang/Class;" } : Jvm.MethodName)).before a0 Z = true := hw _ (List.mem_of_getElem? (i := 177) rfl)
theorem wd178 {Z : State} {a0 : Array Value} (hw : ∀ d ∈ tables_1, d.before a0 Z = true) : (Jvm.Cond.interfaceMethod "java/util/List" "java/lang/Object" "getClass" "()Ljava/lang/Class;").before a0 Z = true := hw _ (List.mem_of_getElem? (i := 178) rfl)
theorem wd179 {Z : State} {a0 : Array Value} (hw : ∀ d ∈ tables_1, d.before a0 Z = true) : (Jvm.Cond.selects "java/util/ArrayList" ({ cls := "java/util/List", name := "getClass", desc := "()Ljava/lang/Class;" } : Jvm.MethodName) ({ cls := "java/lang/Object", name := "getClass", desc := "()Ljava/lang/Class;" } : Jvm.MethodName)).before a0 Z = true := hw _ (List.mem_of_getElem? (i := 179) rfl)
theorem wd180 {Z : State} {a0 : Array Value} (hw : ∀ d ∈ tables_1, d.before a0 Z = true) : (Jvm.Cond.classLink "java/util/Collections" (212 : Nat) "java/util/Collections$UnmodifiableList").before a0 Z = true := hw _ (List.mem_of_getElem? (i := 180) rfl)
theorem wd182 {Z : State} {a0 : Array Value} (hw : ∀ d ∈ tables_1, d.before a0 Z = true) : (Jvm.Cond.methodLink "java/util/Collections" (214 : Nat) ({ cls := "java/util/List", name := "getClass", desc := "()Ljava/lang/Class;" } : Jvm.MethodName)).before a0 Z = true := hw _ (List.mem_of_getElem? (i := 182) rfl)
theorem wd183 {Z : State} {a0 : Array Value} (hw : ∀ d ∈ tables_1, d.before a0 Z = true) : (Jvm.Cond.classLink "java/util/Collections" (215 : Nat) "java/util/Collections$UnmodifiableRandomAccessList").before a0 Z = true := hw _ (List.mem_of_getElem? (i := 183) rfl)
theorem wd185 {Z : State} {a0 : Array Value} (hw : ∀ d ∈ tables_1, d.before a0 Z = true) : (Jvm.Cond.classLink "java/util/Collections" (13 : Nat) "java/util/RandomAccess").before a0 Z = true := hw _ (List.mem_of_getElem? (i := 185) rfl)
theorem wd186 {Z : State} {a0 : Array Value} (hw : ∀ d ∈ tables_1, d.before a0 Z = true) : (Jvm.Cond.castable "java/util/ArrayList" "java/util/RandomAccess").before a0 Z = true := hw _ (List.mem_of_getElem? (i := 186) rfl)
theorem wd187 {Z : State} {a0 : Array Value} (hw : ∀ d ∈ tables_1, d.before a0 Z = true) : (Jvm.Cond.instantiable "java/util/Collections$UnmodifiableRandomAccessList" (2 : Nat)).before a0 Z = true := hw _ (List.mem_of_getElem? (i := 187) rfl)
theorem wd188 {Z : State} {a0 : Array Value} (hw : ∀ d ∈ tables_1, d.before a0 Z = true) : (Jvm.Cond.initialized "java/util/Collections$UnmodifiableRandomAccessList").before a0 Z = true := hw _ (List.mem_of_getElem? (i := 188) rfl)
theorem wd189 {Z : State} {a0 : Array Value} (hw : ∀ d ∈ tables_1, d.before a0 Z = true) : (Jvm.Cond.methodLink "java/util/Collections" (217 : Nat) ({ cls := "java/util/Collections$UnmodifiableRandomAccessList", name := "<init>", desc := "(Ljava/util/List;)V" } : Jvm.MethodName)).before a0 Z = true := hw _ (List.mem_of_getElem? (i := 189) rfl)
theorem wd190 {Z : State} {a0 : Array Value} (hw : ∀ d ∈ tables_1, d.before a0 Z = true) : (Jvm.Cond.instanceMethod ({ cls := "java/util/Collections$UnmodifiableRandomAccessList", name := "<init>", desc := "(Ljava/util/List;)V" } : Jvm.MethodName)).before a0 Z = true := hw _ (List.mem_of_getElem? (i := 190) rfl)
theorem wd191 {Z : State} {a0 : Array Value} (hw : ∀ d ∈ tables_1, d.before a0 Z = true) : (Jvm.Cond.code ({ cls := "java/util/Collections$UnmodifiableRandomAccessList", name := "<init>", desc := "(Ljava/util/List;)V" } : Jvm.MethodName) jdk_121_method_1_code (2 : Nat) (Option.none : Option Jvm.ClassFile.FieldType)).before a0 Z = true := hw _ (List.mem_of_getElem? (i := 191) rfl)
theorem wd192 {Z : State} {a0 : Array Value} (hw : ∀ d ∈ tables_1, d.before a0 Z = true) : (Jvm.Cond.methodLink "java/util/Collections$UnmodifiableRandomAccessList" (1 : Nat) ({ cls := "java/util/Collections$UnmodifiableList", name := "<init>", desc := "(Ljava/util/List;)V" } : Jvm.MethodName)).before a0 Z = true := hw _ (List.mem_of_getElem? (i := 192) rfl)
theorem wd193 {Z : State} {a0 : Array Value} (hw : ∀ d ∈ tables_1, d.before a0 Z = true) : (Jvm.Cond.instanceMethod ({ cls := "java/util/Collections$UnmodifiableList", name := "<init>", desc := "(Ljava/util/List;)V" } : Jvm.MethodName)).before a0 Z = true := hw _ (List.mem_of_getElem? (i := 193) rfl)
theorem wd196 {Z : State} {a0 : Array Value} (hw : ∀ d ∈ tables_1, d.before a0 Z = true) : (Jvm.Cond.initialized "java/util/Collections$UnmodifiableList").before a0 Z = true := hw _ (List.mem_of_getElem? (i := 196) rfl)
theorem wd197 {Z : State} {a0 : Array Value} (hw : ∀ d ∈ tables_1, d.before a0 Z = true) : (Jvm.Cond.code ({ cls := "java/util/Collections$UnmodifiableList", name := "<init>", desc := "(Ljava/util/List;)V" } : Jvm.MethodName) jdk_120_method_1_code (2 : Nat) (Option.none : Option Jvm.ClassFile.FieldType)).before a0 Z = true := hw _ (List.mem_of_getElem? (i := 197) rfl)
theorem wd198 {Z : State} {a0 : Array Value} (hw : ∀ d ∈ tables_1, d.before a0 Z = true) : (Jvm.Cond.methodLink "java/util/Collections$UnmodifiableList" (1 : Nat) ({ cls := "java/util/Collections$UnmodifiableCollection", name := "<init>", desc := "(Ljava/util/Collection;)V" } : Jvm.MethodName)).before a0 Z = true := hw _ (List.mem_of_getElem? (i := 198) rfl)
theorem wd199 {Z : State} {a0 : Array Value} (hw : ∀ d ∈ tables_1, d.before a0 Z = true) : (Jvm.Cond.instanceMethod ({ cls := "java/util/Collections$UnmodifiableCollection", name := "<init>", desc := "(Ljava/util/Collection;)V" } : Jvm.MethodName)).before a0 Z = true := hw _ (List.mem_of_getElem? (i := 199) rfl)
theorem wd202 {Z : State} {a0 : Array Value} (hw : ∀ d ∈ tables_1, d.before a0 Z = true) : (Jvm.Cond.initialized "java/util/Collections$UnmodifiableCollection").before a0 Z = true := hw _ (List.mem_of_getElem? (i := 202) rfl)
theorem wd203 {Z : State} {a0 : Array Value} (hw : ∀ d ∈ tables_1, d.before a0 Z = true) : (Jvm.Cond.code ({ cls := "java/util/Collections$UnmodifiableCollection", name := "<init>", desc := "(Ljava/util/Collection;)V" } : Jvm.MethodName) jdk_119_method_1_code (2 : Nat) (Option.none : Option Jvm.ClassFile.FieldType)).before a0 Z = true := hw _ (List.mem_of_getElem? (i := 203) rfl)
theorem wd204 {Z : State} {a0 : Array Value} (hw : ∀ d ∈ tables_1, d.before a0 Z = true) : (Jvm.Cond.methodLink "java/util/Collections$UnmodifiableCollection" (1 : Nat) ({ cls := "java/lang/Object", name := "<init>", desc := "()V" } : Jvm.MethodName)).before a0 Z = true := hw _ (List.mem_of_getElem? (i := 204) rfl)
theorem wd205 {Z : State} {a0 : Array Value} (hw : ∀ d ∈ tables_1, d.before a0 Z = true) : (Jvm.Cond.fieldLink "java/util/Collections$UnmodifiableCollection" (10 : Nat) "java/util/Collections$UnmodifiableCollection" "c" "Ljava/util/Collection;").before a0 Z = true := hw _ (List.mem_of_getElem? (i := 205) rfl)
theorem wd206 {Z : State} {a0 : Array Value} (hw : ∀ d ∈ tables_1, d.before a0 Z = true) : (Jvm.Cond.laysFinal "java/util/Collections$UnmodifiableRandomAccessList" "java/util/Collections$UnmodifiableCollection" "c" "Ljava/util/Collection;").before a0 Z = true := hw _ (List.mem_of_getElem? (i := 206) rfl)
theorem wd207 {Z : State} {a0 : Array Value} (hw : ∀ d ∈ tables_1, d.before a0 Z = true) : (Jvm.Cond.fieldLink "java/util/Collections$UnmodifiableList" (7 : Nat) "java/util/Collections$UnmodifiableList" "list" "Ljava/util/List;").before a0 Z = true := hw _ (List.mem_of_getElem? (i := 207) rfl)
theorem wd208 {Z : State} {a0 : Array Value} (hw : ∀ d ∈ tables_1, d.before a0 Z = true) : (Jvm.Cond.laysFinal "java/util/Collections$UnmodifiableRandomAccessList" "java/util/Collections$UnmodifiableList" "list" "Ljava/util/List;").before a0 Z = true := hw _ (List.mem_of_getElem? (i := 208) rfl)
theorem wd209 {Z : State} {a0 : Array Value} (hw : ∀ d ∈ tables_1, d.before a0 Z = true) : (Jvm.Cond.selects "java/util/Collections$UnmodifiableRandomAccessList" ({ cls := "java/util/List", name := "isEmpty", desc := "()Z" } : Jvm.MethodName) ({ cls := "java/util/Collections$UnmodifiableCollection", name := "isEmpty", desc := "()Z" } : Jvm.MethodName)).before a0 Z = true := hw _ (List.mem_of_getElem? (i := 209) rfl)
theorem wd210 {Z : State} {a0 : Array Value} (hw : ∀ d ∈ tables_1, d.before a0 Z = true) : (Jvm.Cond.instanceMethod ({ cls := "java/util/Collections$UnmodifiableCollection", name := "isEmpty", desc := "()Z" } : Jvm.MethodName)).before a0 Z = true := hw _ (List.mem_of_getElem? (i := 210) rfl)
theorem wd211 {Z : State} {a0 : Array Value} (hw : ∀ d ∈ tables_1, d.before a0 Z = true) : (Jvm.Cond.publicMethod ({ cls := "java/util/Collections$UnmodifiableCollection", name := "isEmpty", desc := "()Z" } : Jvm.MethodName)).before a0 Z = true := hw _ (List.mem_of_getElem? (i := 211) rfl)
theorem wd212 {Z : State} {a0 : Array Value} (hw : ∀ d ∈ tables_1, d.before a0 Z = true) : (Jvm.Cond.unhidden "java/util/Collections$UnmodifiableRandomAccessList" "isEmpty" "()Z").before a0 Z = true := hw _ (List.mem_of_getElem? (i := 212) rfl)
theorem wd213 {Z : State} {a0 : Array Value} (hw : ∀ d ∈ tables_1, d.before a0 Z = true) : (Jvm.Cond.castable "java/util/Collections$UnmodifiableRandomAccessList" "java/util/List").before a0 Z = true := hw _ (List.mem_of_getElem? (i := 213) rfl)
theorem wd214 {Z : State} {a0 : Array Value} (hw : ∀ d ∈ tables_1, d.before a0 Z = true) : (Jvm.Cond.code ({ cls := "java/util/Collections$UnmodifiableCollection", name := "isEmpty", desc := "()Z" } : Jvm.MethodName) jdk_119_method_3_code (1 : Nat) (Option.some Jvm.ClassFile.FieldType.boolean)).before a0 Z = true := hw _ (List.mem_of_getElem? (i := 214) rfl)
theorem wd215 {Z : State} {a0 : Array Value} (hw : ∀ d ∈ tables_1, d.before a0 Z = true) : (Jvm.Cond.methodLink "java/util/Collections$UnmodifiableCollection" (22 : Nat) ({ cls := "java/util/Collection", name := "isEmpty", desc := "()Z" } : Jvm.MethodName)).before a0 Z = true := hw _ (List.mem_of_getElem? (i := 215) rfl)
theorem wd216 {Z : State} {a0 : Array Value} (hw : ∀ d ∈ tables_1, d.before a0 Z = true) : (Jvm.Cond.declares ({ cls := "java/util/Collection", name := "isEmpty", desc := "()Z" } : Jvm.MethodName)).before a0 Z = true := hw _ (List.mem_of_getElem? (i := 216) rfl)
theorem wd217 {Z : State} {a0 : Array Value} (hw : ∀ d ∈ tables_1, d.before a0 Z = true) : (Jvm.Cond.interfaceMethod "java/util/Collection" "java/util/Collection" "isEmpty" "()Z").before a0 Z = true := hw _ (List.mem_of_getElem? (i := 217) rfl)
theorem wd218 {Z : State} {a0 : Array Value} (hw : ∀ d ∈ tables_1, d.before a0 Z = true) : (Jvm.Cond.selects "java/util/ArrayList" ({ cls := "java/util/Collection", name := "isEmpty", desc := "()Z" } : Jvm.MethodName) ({ cls := "java/util/ArrayList", name := "isEmpty", desc := "()Z" } : Jvm.MethodName)).before a0 Z = true := hw _ (List.mem_of_getElem? (i := 218) rfl)
theorem wd219 {Z : State} {a0 : Array Value} (hw : ∀ d ∈ tables_1, d.before a0 Z = true) : (Jvm.Cond.fieldLink "com/example/treegraft/treegraft/brackets/Bracket" (37 : Nat) "com/example/treegraft/treegraft/brackets/Bracket" "label" "Ljava/lang/String;").before a0 Z = true := hw _ (List.mem_of_getElem? (i := 219) rfl)
theorem wd220 {Z : State} {a0 : Array Value} (hw : ∀ d ∈ tables_1, d.before a0 Z = true) : (Jvm.Cond.laysFinal "com/example/treegraft/treegraft/brackets/Bracket" "com/example/treegraft/treegraft/brackets/Bracket" "label" "Ljava/lang/String;").before a0 Z = true := hw _ (List.mem_of_getElem? (i := 220) rfl)
theorem wd221 {Z : State} {a0 : Array Value} (hw : ∀ d ∈ tables_1, d.before a0 Z = true) : (Jvm.Cond.fieldLink "com/example/treegraft/treegraft/brackets/Bracket" (43 : Nat) "com/example/treegraft/treegraft/brackets/Bracket" "word" "Ljava/lang/String;").before a0 Z = true := hw _ (List.mem_of_getElem? (i := 221) rfl)
theorem wd222 {Z : State} {a0 : Array Value} (hw : ∀ d ∈ tables_1, d.before a0 Z = true) : (Jvm.Cond.laysFinal "com/example/treegraft/treegraft/brackets/Bracket" "com/example/treegraft/treegraft/brackets/Bracket" "word" "Ljava/lang/String;").before a0 Z = true := hw _ (List.mem_of_getElem? (i := 222) rfl)
theorem wd223 {Z : State} {a0 : Array Value} (hw : ∀ d ∈ tables_1, d.before a0 Z = true) : (Jvm.Cond.fieldLink "com/example/treegraft/treegraft/brackets/Bracket" (46 : Nat) "com/example/treegraft/treegraft/brackets/Bracket" "children" "Ljava/util/List;").before a0 Z = true := hw _ (List.mem_of_getElem? (i := 223) rfl)
theorem wd224 {Z : State} {a0 : Array Value} (hw : ∀ d ∈ tables_1, d.before a0 Z = true) : (Jvm.Cond.laysFinal "com/example/treegraft/treegraft/brackets/Bracket" "com/example/treegraft/treegraft/brackets/Bracket" "children" "Ljava/util/List;").before a0 Z = true := hw _ (List.mem_of_getElem? (i := 224) rfl)
theorem wd225 {Z : State} {a0 : Array Value} (hw : ∀ d ∈ tables_1, d.before a0 Z = true) : (Jvm.Cond.fieldLink "com/example/treegraft/treegraft/brackets/Bracket" (50 : Nat) "com/example/treegraft/treegraft/brackets/Bracket" "line" "I").before a0 Z = true := hw _ (List.mem_of_getElem? (i := 225) rfl)
theorem wd226 {Z : State} {a0 : Array Value} (hw : ∀ d ∈ tables_1, d.before a0 Z = true) : (Jvm.Cond.laysFinal "com/example/treegraft/treegraft/brackets/Bracket" "com/example/treegraft/treegraft/brackets/Bracket" "line" "I").before a0 Z = true := hw _ (List.mem_of_getElem? (i := 226) rfl)
theorem wd227 {Z : State} {a0 : Array Value} (hw : ∀ d ∈ tables_1, d.before a0 Z = true) : (Jvm.Cond.methodLink "com/example/treegraft/treegraft/brackets/BracketIsWordPinLaw" (33 : Nat) ({ cls := "com/example/treegraft/treegraft/brackets/Bracket", name := "isWord", desc := "()Z" } : Jvm.MethodName)).before a0 Z = true := hw _ (List.mem_of_getElem? (i := 227) rfl)
theorem wd228 {Z : State} {a0 : Array Value} (hw : ∀ d ∈ tables_1, d.before a0 Z = true) : (Jvm.Cond.declares ({ cls := "com/example/treegraft/treegraft/brackets/Bracket", name := "isWord", desc := "()Z" } : Jvm.MethodName)).before a0 Z = true := hw _ (List.mem_of_getElem? (i := 228) rfl)
theorem wd229 {Z : State} {a0 : Array Value} (hw : ∀ d ∈ tables_1, d.before a0 Z = true) : (Jvm.Cond.instanceMethod ({ cls := "com/example/treegraft/treegraft/brackets/Bracket", name := "isWord", desc := "()Z" } : Jvm.MethodName)).before a0 Z = true := hw _ (List.mem_of_getElem? (i := 229) rfl)
theorem wd230 {Z : State} {a0 : Array Value} (hw : ∀ d ∈ tables_1, d.before a0 Z = true) : (Jvm.Cond.selects "com/example/treegraft/treegraft/brackets/Bracket" ({ cls := "com/example/treegraft/treegraft/brackets/Bracket", name := "isWord", desc := "()Z" } : Jvm.MethodName) ({ cls := "com/example/treegraft/treegraft/brackets/Bracket", name := "isWord", desc := "()Z" } : Jvm.MethodName)).before a0 Z = true := hw _ (List.mem_of_getElem? (i := 230) rfl)
theorem wd231 {Z : State} {a0 : Array Value} (hw : ∀ d ∈ tables_1, d.before a0 Z = true) : (Jvm.Cond.code ({ cls := "com/example/treegraft/treegraft/brackets/Bracket", name := "isWord", desc := "()Z" } : Jvm.MethodName) prog_6_method_4_code (1 : Nat) (Option.some Jvm.ClassFile.FieldType.boolean)).before a0 Z = true := hw _ (List.mem_of_getElem? (i := 231) rfl)
theorem wd232 {Z : State} {a0 : Array Value} (hw : ∀ d ∈ tables_1, d.before a0 Z = true) : (Jvm.Cond.methodLink "com/example/treegraft/treegraft/brackets/BracketIsWordPinLaw" (37 : Nat) ({ cls := "com/example/treegraft/treegraft/brackets/Bracket", name := "word", desc := "()Ljava/lang/String;" } : Jvm.MethodName)).before a0 Z = true := hw _ (List.mem_of_getElem? (i := 232) rfl)
theorem wd233 {Z : State} {a0 : Array Value} (hw : ∀ d ∈ tables_1, d.before a0 Z = true) : (Jvm.Cond.declares ({ cls := "com/example/treegraft/treegraft/brackets/Bracket", name := "word", desc := "()Ljava/lang/String;" } : Jvm.MethodName)).before a0 Z = true := hw _ (List.mem_of_getElem? (i := 233) rfl)
theorem wd234 {Z : State} {a0 : Array Value} (hw : ∀ d ∈ tables_1, d.before a0 Z = true) : (Jvm.Cond.instanceMethod ({ cls := "com/example/treegraft/treegraft/brackets/Bracket", name := "word", desc := "()Ljava/lang/String;" } : Jvm.MethodName)).before a0 Z = true := hw _ (List.mem_of_getElem? (i := 234) rfl)
theorem wd235 {Z : State} {a0 : Array Value} (hw : ∀ d ∈ tables_1, d.before a0 Z = true) : (Jvm.Cond.selects "com/example/treegraft/treegraft/brackets/Bracket" ({ cls := "com/example/treegraft/treegraft/brackets/Bracket", name := "word", desc := "()Ljava/lang/String;" } : Jvm.MethodName) ({ cls := "com/example/treegraft/treegraft/brackets/Bracket", name := "word", desc := "()Ljava/lang/String;" } : Jvm.MethodName)).before a0 Z = true := hw _ (List.mem_of_getElem? (i := 235) rfl)
theorem wd236 {Z : State} {a0 : Array Value} (hw : ∀ d ∈ tables_1, d.before a0 Z = true) : (Jvm.Cond.code ({ cls := "com/example/treegraft/treegraft/brackets/Bracket", name := "word", desc := "()Ljava/lang/String;" } : Jvm.MethodName) prog_6_method_11_code (1 : Nat) (Option.some (Jvm.ClassFile.FieldType.object "java/lang/String"))).before a0 Z = true := hw _ (List.mem_of_getElem? (i := 236) rfl)
theorem wd237 {Z : State} {a0 : Array Value} (hw : ∀ d ∈ tables_1, d.before a0 Z = true) : (Jvm.Cond.methodLink "com/example/treegraft/treegraft/brackets/BracketIsWordPinLaw" (41 : Nat) ({ cls := "com/example/treegraft/treegraft/brackets/Bracket", name := "children", desc := "()Ljava/util/List;" } : Jvm.MethodName)).before a0 Z = true := hw _ (List.mem_of_getElem? (i := 237) rfl)
theorem wd238 {Z : State} {a0 : Array Value} (hw : ∀ d ∈ tables_1, d.before a0 Z = true) : (Jvm.Cond.declares ({ cls := "com/example/treegraft/treegraft/brackets/Bracket", name := "children", desc := "()Ljava/util/List;" } : Jvm.MethodName)).before a0 Z = true := hw _ (List.mem_of_getElem? (i := 238) rfl)
theorem wd239 {Z : State} {a0 : Array Value} (hw : ∀ d ∈ tables_1, d.before a0 Z = true) : (Jvm.Cond.instanceMethod ({ cls := "com/example/treegraft/treegraft/brackets/Bracket", name := "children", desc := "()Ljava/util/List;" } : Jvm.MethodName)).before a0 Z = true := hw _ (List.mem_of_getElem? (i := 239) rfl)
theorem wd240 {Z : State} {a0 : Array Value} (hw : ∀ d ∈ tables_1, d.before a0 Z = true) : (Jvm.Cond.selects "com/example/treegraft/treegraft/brackets/Bracket" ({ cls := "com/example/treegraft/treegraft/brackets/Bracket", name := "children", desc := "()Ljava/util/List;" } : Jvm.MethodName) ({ cls := "com/example/treegraft/treegraft/brackets/Bracket", name := "children", desc := "()Ljava/util/List;" } : Jvm.MethodName)).before a0 Z = true := hw _ (List.mem_of_getElem? (i := 240) rfl)
theorem wd241 {Z : State} {a0 : Array Value} (hw : ∀ d ∈ tables_1, d.before a0 Z = true) : (Jvm.Cond.code ({ cls := "com/example/treegraft/treegraft/brackets/Bracket", name := "children", desc := "()Ljava/util/List;" } : Jvm.MethodName) prog_6_method_12_code (1 : Nat) (Option.some (Jvm.ClassFile.FieldType.object "java/util/List"))).before a0 Z = true := hw _ (List.mem_of_getElem? (i := 241) rfl)
theorem wd242 {Z : State} {a0 : Array Value} (hw : ∀ d ∈ tables_1, d.before a0 Z = true) : (Jvm.Cond.methodLink "com/example/treegraft/treegraft/brackets/BracketIsWordPinLaw" (45 : Nat) ({ cls := "java/util/List", name := "isEmpty", desc := "()Z" } : Jvm.MethodName)).before a0 Z = true := hw _ (List.mem_of_getElem? (i := 242) rfl)
theorem wd243 {Z : State} {a0 : Array Value} (hw : ∀ d ∈ tables_1, d.before a0 Z = true) : (Jvm.Cond.methodLink "com/example/treegraft/treegraft/brackets/BracketIsWordPinLaw" (50 : Nat) ({ cls := "com/example/treegraft/treegraft/brackets/Bracket", name := "line", desc := "()I" } : Jvm.MethodName)).before a0 Z = true := hw _ (List.mem_of_getElem? (i := 243) rfl)
theorem wd244 {Z : State} {a0 : Array Value} (hw : ∀ d ∈ tables_1, d.before a0 Z = true) : (Jvm.Cond.declares ({ cls := "com/example/treegraft/treegraft/brackets/Bracket", name := "line", desc := "()I" } : Jvm.MethodName)).before a0 Z = true := hw _ (List.mem_of_getElem? (i := 244) rfl)
theorem wd245 {Z : State} {a0 : Array Value} (hw : ∀ d ∈ tables_1, d.before a0 Z = true) : (Jvm.Cond.instanceMethod ({ cls := "com/example/treegraft/treegraft/brackets/Bracket", name := "line", desc := "()I" } : Jvm.MethodName)).before a0 Z = true := hw _ (List.mem_of_getElem? (i := 245) rfl)
theorem wd246 {Z : State} {a0 : Array Value} (hw : ∀ d ∈ tables_1, d.before a0 Z = true) : (Jvm.Cond.selects "com/example/treegraft/treegraft/brackets/Bracket" ({ cls := "com/example/treegraft/treegraft/brackets/Bracket", name := "line", desc := "()I" } : Jvm.MethodName) ({ cls := "com/example/treegraft/treegraft/brackets/Bracket", name := "line", desc := "()I" } : Jvm.MethodName)).before a0 Z = true := hw _ (List.mem_of_getElem? (i := 246) rfl)
theorem wd247 {Z : State} {a0 : Array Value} (hw : ∀ d ∈ tables_1, d.before a0 Z = true) : (Jvm.Cond.code ({ cls := "com/example/treegraft/treegraft/brackets/Bracket", name := "line", desc := "()I" } : Jvm.MethodName) prog_6_method_13_code (1 : Nat) (Option.some Jvm.ClassFile.FieldType.int)).before a0 Z = true := hw _ (List.mem_of_getElem? (i := 247) rfl)
theorem wd248 {Z : State} {a0 : Array Value} (hw : ∀ d ∈ tables_1, d.before a0 Z = true) : (Jvm.Cond.stringLink "java/lang/String" (7 : Nat) "").before a0 Z = true := hw _ (List.mem_of_getElem? (i := 248) rfl)
theorem wd251 {Z : State} {a0 : Array Value} (hw : ∀ d ∈ tables_1, d.before a0 Z = true) : (Jvm.Cond.methodLink "com/example/treegraft/treegraft/brackets/Bracket" (13 : Nat) ({ cls := "java/util/List", name := "of", desc := "()Ljava/util/List;" } : Jvm.MethodName)).before a0 Z = true := hw _ (List.mem_of_getElem? (i := 251) rfl)
theorem wd252 {Z : State} {a0 : Array Value} (hw : ∀ d ∈ tables_1, d.before a0 Z = true) : (Jvm.Cond.static ({ cls := "java/util/List", name := "of", desc := "()Ljava/util/List;" } : Jvm.MethodName)).before a0 Z = true := hw _ (List.mem_of_getElem? (i := 252) rfl)
theorem wd253 {Z : State} {a0 : Array Value} (hw : ∀ d ∈ tables_1, d.before a0 Z = true) : (Jvm.Cond.initialized "java/util/List").before a0 Z = true := hw _ (List.mem_of_getElem? (i := 253) rfl)
theorem wd254 {Z : State} {a0 : Array Value} (hw : ∀ d ∈ tables_1, d.before a0 Z = true) : (Jvm.Cond.code ({ cls := "java/util/List", name := "of", desc := "()Ljava/util/List;" } : Jvm.MethodName) jdk_40_method_36_code (0 : Nat) (Option.some (Jvm.ClassFile.FieldType.object "java/util/List"))).before a0 Z = true := hw _ (List.mem_of_getElem? (i := 254) rfl)
theorem wd255 {Z : State} {a0 : Array Value} (hw : ∀ d ∈ tables_1, d.before a0 Z = true) : (Jvm.Cond.fieldLink "java/util/List" (90 : Nat) "java/util/ImmutableCollections" "EMPTY_LIST" "Ljava/util/ImmutableCollections$ListN;").before a0 Z = true := hw _ (List.mem_of_getElem? (i := 255) rfl)
theorem wd257 {Z : State} {a0 : Array Value} (hw : ∀ d ∈ tables_1, d.before a0 Z = true) : (Jvm.Cond.selects "java/util/ImmutableCollections$ListN" ({ cls := "java/util/List", name := "isEmpty", desc := "()Z" } : Jvm.MethodName) ({ cls := "java/util/ImmutableCollections$ListN", name := "isEmpty", desc := "()Z" } : Jvm.MethodName)).before a0 Z = true := hw _ (List.mem_of_getElem? (i := 257) rfl)
theorem wd258 {Z : State} {a0 : Array Value} (hw : ∀ d ∈ tables_1, d.before a0 Z = true) : (Jvm.Cond.instanceMethod ({ cls := "java/util/ImmutableCollections$ListN", name := "isEmpty", desc := "()Z" } : Jvm.MethodName)).before a0 Z = true := hw _ (List.mem_of_getElem? (i := 258) rfl)
theorem wd259 {Z : State} {a0 : Array Value} (hw : ∀ d ∈ tables_1, d.before a0 Z = true) : (Jvm.Cond.publicMethod ({ cls := "java/util/ImmutableCollections$ListN", name := "isEmpty", desc := "()Z" } : Jvm.MethodName)).before a0 Z = true := hw _ (List.mem_of_getElem? (i := 259) rfl)
theorem wd260 {Z : State} {a0 : Array Value} (hw : ∀ d ∈ tables_1, d.before a0 Z = true) : (Jvm.Cond.unhidden "java/util/ImmutableCollections$ListN" "isEmpty" "()Z").before a0 Z = true := hw _ (List.mem_of_getElem? (i := 260) rfl)
theorem wd261 {Z : State} {a0 : Array Value} (hw : ∀ d ∈ tables_1, d.before a0 Z = true) : (Jvm.Cond.castable "java/util/ImmutableCollections$ListN" "java/util/List").before a0 Z = true := hw _ (List.mem_of_getElem? (i := 261) rfl)
theorem wd262 {Z : State} {a0 : Array Value} (hw : ∀ d ∈ tables_1, d.before a0 Z = true) : (Jvm.Cond.initialized "java/util/ImmutableCollections$ListN").before a0 Z = true := hw _ (List.mem_of_getElem? (i := 262) rfl)
theorem wd263 {Z : State} {a0 : Array Value} (hw : ∀ d ∈ tables_1, d.before a0 Z = true) : (Jvm.Cond.code ({ cls := "java/util/ImmutableCollections$ListN", name := "isEmpty", desc := "()Z" } : Jvm.MethodName) jdk_45_method_2_code (1 : Nat) (Option.some Jvm.ClassFile.FieldType.boolean)).before a0 Z = true := hw _ (List.mem_of_getElem? (i := 263) rfl)
theorem wd264 {Z : State} {a0 : Array Value} (hw : ∀ d ∈ tables_1, d.before a0 Z = true) : (Jvm.Cond.fieldLink "java/util/ImmutableCollections$ListN" (7 : Nat) "java/util/ImmutableCollections$ListN" "elements" "[Ljava/lang/Object;").before a0 Z = true := hw _ (List.mem_of_getElem? (i := 264) rfl)
/-- a is an ArrayList: elementData, size, modCount -/
def AL (Z : State) (h : Heap) (a : Addr) (ed : Value) (n mc : Int32) : Prop := Exa Z h a "java/util/ArrayList" ∧ Fld Z h a "java/util/ArrayList" "elementData" "[Ljava/lang/Object;" ed ∧ Fld Z h a "java/util/ArrayList" "size" "I" (.int n) ∧ Fld Z h a "java/util/AbstractList" "modCount" "I" (.int mc)
theorem AL.ext {Z : State} {h h' : Heap} {a : Addr} {ed : Value} {n mc : Int32} (A : AL Z h a ed n mc) (E : Ext h h') : AL Z h' a ed n mc := ⟨A.1.ext E, A.2.1.ext E, A.2.2.1.ext E, A.2.2.2.ext E⟩
theorem AL.keep {Z : State} {h h' : Heap} {a : Addr} {ed : Value} {n mc : Int32} {ws : List Addr} (A : AL Z h a ed n mc) (K : Keep h h' ws) (q : a ∉ ws) : AL Z h' a ed n mc := ⟨A.1.keep K, A.2.1.keep K q, A.2.2.1.keep K q, A.2.2.2.keep K q⟩
theorem AL.other {Z : State} {h h' : Heap} {a b : Addr} {sl : Nat} {v : Value} {ed : Value} {n mc : Int32} (A : AL Z h a ed n mc) (W : Wr h h' b sl v) (q : a ≠ b) : AL Z h' a ed n mc := ⟨A.1.wr W, A.2.1.other W (Or.inl q), A.2.2.1.other W (Or.inl q), A.2.2.2.other W (Or.inl q)⟩
theorem AL.lt {Z : State} {h : Heap} {a : Addr} {ed : Value} {n mc : Int32} (A : AL Z h a ed n mc) : a < h.size := A.1.lt
/-- d is an Object[] of cap places that hold vs -/
def OA (Z : State) (h : Heap) (d : Addr) (cap : Int32) (vs : List Value) : Prop := ∃ kd, Arv Z h d kd (.object "java/lang/Object") cap vs .null ∧ Ovr Z kd "java/lang/Object" ∧ Exa Z h d "[Ljava/lang/Object;"
theorem OA.ext {Z : State} {h h' : Heap} {d : Addr} {cap : Int32} {vs : List Value} (A : OA Z h d cap vs) (E : Ext h h') : OA Z h' d cap vs := by obtain ⟨k, a, b, c⟩ := A; exact ⟨k, a.ext E, b, c.ext E⟩
theorem OA.keep {Z : State} {h h' : Heap} {d : Addr} {cap : Int32} {vs : List Value} {ws : List Addr} (A : OA Z h d cap vs) (K : Keep h h' ws) (q : d ∉ ws) : OA Z h' d cap vs := by obtain ⟨k, a, b, c⟩ := A; exact ⟨k, a.keep K q, b, c.keep K⟩
theorem OA.other {Z : State} {h h' : Heap} {a d : Addr} {sl : Nat} {v : Value} {cap : Int32} {vs : List Value} (A : OA Z h d cap vs) (W : Wr h h' a sl v) (q : d ≠ a) : OA Z h' d cap vs := by obtain ⟨k, b, c, f⟩ := A; exact ⟨k, b.other W q, c, f.wr W⟩
theorem OA.lt {Z : State} {h : Heap} {d : Addr} {cap : Int32} {vs : List Value} (A : OA Z h d cap vs) : d < h.size := by obtain ⟨k, a, -⟩ := A; exact a.lt
theorem OA.safe {Z : State} {h : Heap} {d : Addr} {cap : Int32} {vs : List Value} {EL : List (String × Nat)} {vm : Vm} (A : OA Z h d cap vs) (al : Z.vm.Alike vm) : Safe Z EL vm h d := by obtain ⟨k, a, -⟩ := A; exact Safe.arv al a (by intro q; cases q)
theorem OA.ty {Z : State} {h : Heap} {d : Addr} {cap : Int32} {vs : List Value} (A : OA Z h d cap vs) : ∃ kd, Arv Z h d kd (.object "java/lang/Object") cap vs .null ∧ FieldType.object "java/lang/Object" ≠ .byte := by obtain ⟨k, a, -⟩ := A; exact ⟨k, a, by intro q; cases q⟩
/-- u wraps lists: c, list -/
def UL (Z : State) (h : Heap) (u : Addr) (v1 v2 : Value) : Prop := Exa Z h u "java/util/Collections$UnmodifiableRandomAccessList" ∧ Fld Z h u "java/util/Collections$UnmodifiableCollection" "c" "Ljava/util/Collection;" v1 ∧ Fld Z h u "java/util/Collections$UnmodifiableList" "list" "Ljava/util/List;" v2
theorem UL.ext {Z : State} {h h' : Heap} {u : Addr} {v1 v2 : Value} (A : UL Z h u v1 v2) (E : Ext h h') : UL Z h' u v1 v2 := ⟨A.1.ext E, A.2.1.ext E, A.2.2.ext E⟩
theorem UL.keep {Z : State} {h h' : Heap} {u : Addr} {v1 v2 : Value} {ws : List Addr} (A : UL Z h u v1 v2) (K : Keep h h' ws) (q : u ∉ ws) : UL Z h' u v1 v2 := ⟨A.1.keep K, A.2.1.keep K q, A.2.2.keep K q⟩
theorem UL.other {Z : State} {h h' : Heap} {u b : Addr} {sl : Nat} {v : Value} {v1 v2 : Value} (A : UL Z h u v1 v2) (W : Wr h h' b sl v) (q : u ≠ b) : UL Z h' u v1 v2 := ⟨A.1.wr W, A.2.1.other W (Or.inl q), A.2.2.other W (Or.inl q)⟩
/-- u is the list nl or wraps it -/
def WU (Z : State) (h : Heap) (u nl : Addr) : Prop := u = nl ∨ UL Z h u (.ref nl) (.ref nl)
theorem WU.ext {Z : State} {h h' : Heap} {u nl : Addr} (A : WU Z h u nl) (E : Ext h h') : WU Z h' u nl := A.imp id (·.ext E)
theorem WU.keep {Z : State} {h h' : Heap} {u nl : Addr} {ws : List Addr} (A : WU Z h u nl) (K : Keep h h' ws) (q : u ∉ ws) : WU Z h' u nl := A.imp id (·.keep K q)
theorem WU.other {Z : State} {h h' : Heap} {u nl b : Addr} {sl : Nat} {v : Value} (A : WU Z h u nl) (W : Wr h h' b sl v) (q : u ≠ b) : WU Z h' u nl := A.imp id (·.other W q)
theorem ew1 {Z : State} {a0 : Array Value} (hw : ∀ d ∈ tables_1, d.before a0 Z = true) : EW Z a0 consts_1 := (EW.cons (wd248 hw) (by decide) EW.nil)
theorem sa1 {Z : State} {a0 : Array Value} (hw : ∀ d ∈ tables_1, d.before a0 Z = true) : ∀ a ∈ Bundle.stringAtoms, a.before a0 Z = true := fun d hd => hw d ((by decide +kernel : ∀ d ∈ Bundle.stringAtoms, d ∈ tables_1) d hd)
set_option maxRecDepth 65536 in
set_option maxHeartbeats 40000000 in
theorem ef_rmE1 (m : MethodId) (a1 : Addr) (a2 : Addr) : entryFrame m #[(.ref a1), (.ref a2), (.int (0 : Int32)), (.int (0 : Int32)), .null] 6 = mkF m 0 #[.val (.ref a1), .val (.ref a2), .val (.int (0 : Int32)), .val (.int (0 : Int32)), .val .null, .unset] [] := by first | (simp [entryFrame, mkF, argsToLocals, Value.category]; done) | (rfl)
set_option maxRecDepth 65536 in
set_option maxHeartbeats 40000000 in
theorem rmE1 (l : Launch) (Z : State) (a0 : Array Value) (hw : ∀ d ∈ tables_1, d.before a0 Z = true) (ew : EW Z a0 consts_1) (a1 : Addr) (a2 : Addr) (h0 : Heap) (O : Ext Z.heap h0) (za : Z.heap.size ≤ a1) (E_a1 : Exa Z h0 a1 "java/lang/String") (F_a1_value : Fld Z h0 a1 "java/lang/String" "value" "[B" .null) (F_a1_coder : Fld Z h0 a1 "java/lang/String" "coder" "B" (.int 0)) :
    MCc l Z consts_1 (⟨"java/lang/String", "<init>", "([CIILjava/lang/Void;)V"⟩ : MethodName) jdk_42_method_149_code 6 none [] ({ frames := 1, cells := 4, slots := 8, locals := 12 } : Room) #[(.ref a1), (.ref a2), (.int (0 : Int32)), (.int (0 : Int32)), .null] h0 [a1] (RU (fun h => Str Z h a1 [])) := by
  refine MCc.mk (a0 := a0) rfl rfl (plainFor_of_name pn0) O ew (fun m => ef_rmE1 m a1 a2) ?_
  intro pg ev s m below meth cd T hh X
  subst hh
  have lt_a1 := E_a1.lt
  refine X.aloadN (pc' := 1) d7_0 rfl rfl rfl ?_
  refine X.initO (pc' := 4) (wd19 hw) (wd20 hw) (wd21 hw) rfl d7_1 (leB rfl) (leB rfl) rfl ?_
  intro T X
  refine X.iloadN (pc' := 5) d7_4 rfl rfl ?_
  refine X.ifN (pc' := 8) d7_5 (by decide) rfl ?_
  refine X.aloadN (pc' := 9) d7_8 rfl rfl rfl ?_
  refine X.ldcS (pc' := 11) (vs := []) (z := (0 : Int32)) (wd248 hw) (sa1 hw) (by simp [consts_1, Jvm.Pilot.@@N@@.x]) (by decide) (by decide) rfl d7_9 0 (by decide) (by decide) (leB rfl) (leB rfl) rfl ?_
  intro T vm h l1 t1 ka_t1 Ex hC E_l1 F_l1_coder F_l1_value V_t1 lt_l1 lt_t1 sf X
  replace F_a1_value := F_a1_value.ext Ex
  replace F_a1_coder := F_a1_coder.ext Ex
  replace E_a1 := E_a1.ext Ex
  replace lt_a1 := Nat.lt_of_lt_of_le lt_a1 Ex.1
  have sf1 := Safe.blank (EL := consts_1) X.al E_a1 (wd10 hw) F_a1_value
  have ne1 := sf _ sf1
  refine X.getF (pc' := 14) (wd22 hw) Via.refl F_l1_value d7_11 rfl ?_
  intro T X
  have H0 := X.H
  refine X.putF (pc' := 17) (wd22 hw) Via.refl F_a1_value E_a1 (Or.inr ⟨(wd23 hw), rfl, rfl⟩) (wd10 hw) (.array .byte) (by decide) rfl rfl sf1 za (Or.inl (List.mem_of_getElem? (i := 0) rfl)) d7_14 rfl ?_
  intro T h L X W
  replace F_a1_coder := F_a1_coder.other W (Or.inr (slot_ne (Or.inr (wd25 hw)) (Or.inr (wd23 hw)) (by decide) (t := .byte) (t' := (.array .byte)) (by decide) (by decide)))
  replace E_a1 := E_a1.wr W
  replace lt_a1 := Nat.lt_of_lt_of_le lt_a1 (Keep.of_wr W).1
  replace E_l1 := E_l1.wr W
  replace F_l1_coder := F_l1_coder.other W (Or.inl (Ne.symm ne1.1))
  replace F_l1_value := F_l1_value.other W (Or.inl (Ne.symm ne1.1))
  replace V_t1 := V_t1.other W (Ne.symm ne1.2)
  replace lt_l1 := Nat.lt_of_lt_of_le lt_l1 (Keep.of_wr W).1
  replace lt_t1 := Nat.lt_of_lt_of_le lt_t1 (Keep.of_wr W).1
  replace F_a1_value := F_a1_value.same W
  replace sf1 := Safe.wr W sf1 H0 sf1
  refine X.aloadN (pc' := 18) d7_17 rfl rfl rfl ?_
  refine X.ldcS (pc' := 20) (vs := []) (z := (0 : Int32)) (wd248 hw) (sa1 hw) (by simp [consts_1, Jvm.Pilot.@@N@@.x]) (by decide) (by decide) rfl d7_18 0 (by decide) (by decide) (leB rfl) (leB rfl) rfl ?_
  intro T vm h l2 t2 ka_t2 Ex hC E_l2 F_l2_coder F_l2_value V_t2 lt_l2 lt_t2 sf X
  replace sf1 := hC.safe lt_a1 sf1
  replace F_a1_value := F_a1_value.ext Ex
  replace F_a1_coder := F_a1_coder.ext Ex
  replace E_a1 := E_a1.ext Ex
  replace lt_a1 := Nat.lt_of_lt_of_le lt_a1 Ex.1
  replace V_t1 := V_t1.ext Ex
  replace lt_t1 := Nat.lt_of_lt_of_le lt_t1 Ex.1
  have ne2 := sf _ sf1
  refine X.getF (pc' := 23) (wd24 hw) Via.refl F_l2_coder d7_20 rfl ?_
  intro T X
  refine X.putF (pc' := 26) (wd24 hw) Via.refl F_a1_coder E_a1 (Or.inr ⟨(wd25 hw), rfl, rfl⟩) (wd10 hw) .byte (by decide) rfl rfl sf1 za (Or.inl (List.mem_of_getElem? (i := 0) rfl)) d7_23 rfl ?_
  intro T h L X W
  replace F_a1_value := F_a1_value.other W (Or.inr (slot_ne (Or.inr (wd23 hw)) (Or.inr (wd25 hw)) (by decide) (t := (.array .byte)) (t' := .byte) (by decide) (by decide)))
  replace E_a1 := E_a1.wr W
  replace lt_a1 := Nat.lt_of_lt_of_le lt_a1 (Keep.of_wr W).1
  replace V_t1 := V_t1.other W (Ne.symm ne1.2)
  replace lt_t1 := Nat.lt_of_lt_of_le lt_t1 (Keep.of_wr W).1
  replace lt_l2 := Nat.lt_of_lt_of_le lt_l2 (Keep.of_wr W).1
  replace lt_t2 := Nat.lt_of_lt_of_le lt_t2 (Keep.of_wr W).1
  replace F_a1_coder := F_a1_coder.same W
  exact X.retUC d7_26 (by decide) (by decide) ⟨rfl, t1, ka_t1, 0, 0, [], E_a1, F_a1_value, F_a1_coder, V_t1, StrChars.Road.codOf (cs := []) (n := 0) rfl (fun _ q => nomatch q), (fun _ q => nomatch q), by decide⟩
set_option maxRecDepth 65536 in
set_option maxHeartbeats 40000000 in
theorem ef_rmE0 (m : MethodId) (a1 : Addr) (a2 : Addr) : entryFrame m #[(.ref a1), (.ref a2)] 2 = mkF m 0 #[.val (.ref a1), .val (.ref a2)] [] := by first | (simp [entryFrame, mkF, argsToLocals, Value.category]; done) | (rfl)
set_option maxRecDepth 65536 in
set_option maxHeartbeats 40000000 in
theorem rmE0 (l : Launch) (Z : State) (a0 : Array Value) (hw : ∀ d ∈ tables_1, d.before a0 Z = true) (ew : EW Z a0 consts_1) (a1 : Addr) (a2 : Addr) (h0 : Heap) (O : Ext Z.heap h0) (za : Z.heap.size ≤ a1) (E_a1 : Exa Z h0 a1 "java/lang/String") (F_a1_value : Fld Z h0 a1 "java/lang/String" "value" "[B" .null) (F_a1_coder : Fld Z h0 a1 "java/lang/String" "coder" "B" (.int 0)) (ka : ClassId) (V : Arv Z h0 a2 ka .char (0 : Int32) [] (.int 0)) :
    MCc l Z consts_1 (⟨"java/lang/String", "<init>", "([C)V"⟩ : MethodName) jdk_42_method_3_code 2 none [] ({ frames := 2, cells := 4, slots := 8, locals := 40 } : Room) #[(.ref a1), (.ref a2)] h0 [a1] (RU (fun h => Str Z h a1 [])) := by
  refine MCc.mk (a0 := a0) rfl rfl (plainFor_of_name pn0) O ew (fun m => ef_rmE0 m a1 a2) ?_
  intro pg ev s m below meth cd T hh X
  subst hh
  refine X.aloadN (pc' := 1) d6_0 rfl rfl rfl ?_
  refine X.aloadN (pc' := 2) d6_1 rfl rfl rfl ?_
  refine X.iconst (pc' := 3) (0 : Int32) d6_2 rfl rfl ?_
  refine X.aloadN (pc' := 4) d6_3 rfl rfl rfl ?_
  refine X.alen (pc' := 5) V d6_4 rfl ?_
  refine X.aconstNull (pc' := 6) d6_5 rfl ?_
  refine X.coldU (pc' := 9) (X.sSpecial rfl (wd31 hw) (wd32 hw) (wd33 hw) (by decide) rfl pd0 [(.ref a2), (.int (0 : Int32)), (.int (0 : Int32)), .null] rfl rfl d6_6) (rmE1 l Z a0 hw ew a1 a2 _ X.old za E_a1 F_a1_value F_a1_coder) (wd33 hw) (wd2 hw) (leB rfl) (leB rfl) (leB rfl) (leB rfl) (allS (Or.inl (List.mem_of_getElem? (i := 0) rfl)) all0) rfl ?_
  intro T vm h L X K hC q
  exact X.retUC d6_9 (by decide) (by decide) ⟨rfl, q⟩
set_option maxRecDepth 65536 in
set_option maxHeartbeats 40000000 in
theorem ef_rmCan (m : MethodId) (c0 : Int32) : entryFrame m #[(.int c0)] 1 = mkF m 0 #[.val (.int c0)] [] := by first | (simp [entryFrame, mkF, argsToLocals, Value.category]; done) | (rfl)
set_option maxRecDepth 65536 in
set_option maxHeartbeats 40000000 in
theorem rmCan (l : Launch) (Z : State) (a0 : Array Value) (hw : ∀ d ∈ tables_1, d.before a0 Z = true) (c0 : Int32) (h0 : Heap) (O : Ext Z.heap h0) (r_c0 : ¬ c0 < 0 ∧ ¬ (255 : Int32) < c0) :
    MN l Z (⟨"java/lang/StringLatin1", "canEncode", "(C)Z"⟩ : MethodName) jdk_43_method_3_code 1 (some .boolean) [] ({ frames := 0, cells := 0, slots := 0, locals := 0 } : Room) #[(.int c0)] h0 [] (RP h0 (fun w => w = .int 1)) := by
  refine MN.mk (a0 := a0) rfl rfl (plainFor_of_name pn1) O (fun m => ef_rmCan m c0) ?_
  intro pg ev s m below meth cd T hh X
  subst hh
  refine X.iloadN (pc' := 1) d2_0 rfl rfl ?_
  refine X.sipush (pc' := 4) (255 : Int32) d2_1 rfl rfl ?_
  refine X.icN (pc' := 7) d2_4 ((flt r_c0.2).2.2.1) rfl ?_
  refine X.iconst (pc' := 8) (1 : Int32) d2_7 rfl rfl ?_
  refine X.goto (pc' := 12) d2_8 (by decide) (by decide) ?_
  exact X.retIN (by simp) rfl d2_12 (by decide) (by decide) ⟨_, rfl, rfl, rfl⟩
set_option maxRecDepth 65536 in
set_option maxHeartbeats 40000000 in
theorem ef_rmToB (m : MethodId) (c0 : Int32) : entryFrame m #[(.int c0)] 1 = mkF m 0 #[.val (.int c0)] [] := by first | (simp [entryFrame, mkF, argsToLocals, Value.category]; done) | (rfl)
set_option maxRecDepth 65536 in
set_option maxHeartbeats 40000000 in
theorem rmToB (l : Launch) (Z : State) (a0 : Array Value) (hw : ∀ d ∈ tables_1, d.before a0 Z = true) (c0 : Int32) (h0 : Heap) (O : Ext Z.heap h0)  :
    MN l Z (⟨"java/lang/StringLatin1", "toBytes", "(C)[B"⟩ : MethodName) jdk_43_method_46_code 1 (some (.array .byte)) [] ({ frames := 0, cells := 1, slots := 1, locals := 0 } : Room) #[(.int c0)] h0 [] (RV (fun w h => ∃ t ka, w = .ref t ∧ h0.size ≤ t ∧ Arv Z h t ka .byte (1 : Int32) [(.int (c0.toInt8.toInt32))] (.int 0))) := by
  refine MN.mk (a0 := a0) rfl rfl (plainFor_of_name pn1) O (fun m => ef_rmToB m c0) ?_
  intro pg ev s m below meth cd T hh X
  subst hh
  refine X.iconst (pc' := 1) (1 : Int32) d3_0 rfl rfl ?_
  refine X.newP (pc' := 3) (aty := .byte) (wd14 hw) d3_1 (by decide) 1 (by decide) (by decide) (by decide) (by decide) rfl ?_
  intro T h b1 ka_b1 g_b1 Ex lt_b1 V_b1 X1
  have z_b1 : Z.heap.size ≤ b1 := by rw [g_b1]; exact X.old.1
  have s_b1 : s.heap.size ≤ b1 := by rw [g_b1]; exact X.kp.1
  replace X := X1
  replace V_b1 : Arv Z h b1 ka_b1 .byte (1 : Int32) [(.int (0 : Int32))] (.int (0 : Int32)) := (Arv.pad V_b1 (pad_rep [] (.int (0 : Int32)) 1))
  refine X.dup (pc' := 4) d3_3 rfl rfl ?_
  refine X.iconst (pc' := 5) (0 : Int32) d3_4 rfl rfl ?_
  refine X.iloadN (pc' := 6) d3_5 rfl rfl ?_
  refine X.i2b (pc' := 7) d3_6 rfl ?_
  refine X.bastore (pc' := 8) V_b1 ⟨by decide, by decide⟩ 0 rfl (Nat.le_of_ble_eq_true rfl) safeE z_b1 (Or.inr s_b1) d3_7 rfl ?_
  intro T h L X W V1
  rw [narB c0] at V1
  replace lt_b1 := Nat.lt_of_lt_of_le lt_b1 (Keep.of_wr W).1
  replace V_b1 : Arv Z h b1 ka_b1 .byte (1 : Int32) [(.int (c0.toInt8.toInt32))] (.int (0 : Int32)) := V1
  exact X.retAN rfl rfl d3_8 (by decide) (by decide) ⟨_, rfl, b1, ka_b1, rfl, s_b1, V_b1⟩
set_option maxRecDepth 65536 in
set_option maxHeartbeats 40000000 in
theorem ef_rmBB (m : MethodId) (a1 : Addr) (a2 : Addr) : entryFrame m #[(.ref a1), (.ref a2), (.int (0 : Int32))] 3 = mkF m 0 #[.val (.ref a1), .val (.ref a2), .val (.int (0 : Int32))] [] := by first | (simp [entryFrame, mkF, argsToLocals, Value.category]; done) | (rfl)
set_option maxRecDepth 65536 in
set_option maxHeartbeats 40000000 in
theorem rmBB (l : Launch) (Z : State) (a0 : Array Value) (hw : ∀ d ∈ tables_1, d.before a0 Z = true) (a1 : Addr) (a2 : Addr) (h0 : Heap) (O : Ext Z.heap h0) (za : Z.heap.size ≤ a1) (E_a1 : Exa Z h0 a1 "java/lang/String") (F_a1_value : Fld Z h0 a1 "java/lang/String" "value" "[B" .null) (F_a1_coder : Fld Z h0 a1 "java/lang/String" "coder" "B" (.int 0)) :
    MN l Z (⟨"java/lang/String", "<init>", "([BB)V"⟩ : MethodName) jdk_42_method_151_code 3 none [] ({ frames := 1, cells := 0, slots := 0, locals := 20 } : Room) #[(.ref a1), (.ref a2), (.int (0 : Int32))] h0 [a1] (RU (fun h => Exa Z h a1 "java/lang/String" ∧ Fld Z h a1 "java/lang/String" "value" "[B" (.ref a2) ∧ Fld Z h a1 "java/lang/String" "coder" "B" (.int 0))) := by
  refine MN.mk (a0 := a0) rfl rfl (plainFor_of_name pn0) O (fun m => ef_rmBB m a1 a2) ?_
  intro pg ev s m below meth cd T hh X
  subst hh
  refine X.aloadN (pc' := 1) d4_0 rfl rfl rfl ?_
  refine X.initO (pc' := 4) (wd19 hw) (wd20 hw) (wd21 hw) rfl d4_1 (leB rfl) (leB rfl) rfl ?_
  intro T X
  refine X.aloadN (pc' := 5) d4_4 rfl rfl rfl ?_
  refine X.aloadN (pc' := 6) d4_5 rfl rfl rfl ?_
  refine X.putF (pc' := 9) (wd22 hw) Via.refl F_a1_value E_a1 (Or.inr ⟨(wd23 hw), rfl, rfl⟩) (wd10 hw) (.array .byte) (by decide) rfl rfl safeE za (Or.inl (List.mem_of_getElem? (i := 0) rfl)) d4_6 rfl ?_
  intro T h L X W
  replace F_a1_coder := F_a1_coder.other W (Or.inr (slot_ne (Or.inr (wd25 hw)) (Or.inr (wd23 hw)) (by decide) (t := .byte) (t' := (.array .byte)) (by decide) (by decide)))
  replace E_a1 := E_a1.wr W
  replace F_a1_value := F_a1_value.same W
  refine X.aloadN (pc' := 10) d4_9 rfl rfl rfl ?_
  refine X.iloadN (pc' := 11) d4_10 rfl rfl ?_
  refine X.putF (pc' := 14) (wd24 hw) Via.refl F_a1_coder E_a1 (Or.inr ⟨(wd25 hw), rfl, rfl⟩) (wd10 hw) .byte (by decide) rfl rfl safeE za (Or.inl (List.mem_of_getElem? (i := 0) rfl)) d4_11 rfl ?_
  intro T h L X W
  replace F_a1_value := F_a1_value.other W (Or.inr (slot_ne (Or.inr (wd23 hw)) (Or.inr (wd25 hw)) (by decide) (t := (.array .byte)) (t' := .byte) (by decide) (by decide)))
  replace E_a1 := E_a1.wr W
  replace F_a1_coder := F_a1_coder.same W
  exact X.retUN d4_14 (by decide) (by decide) ⟨rfl, E_a1, F_a1_value, F_a1_coder⟩
set_option maxRecDepth 65536 in
set_option maxHeartbeats 40000000 in
theorem ef_rmVOf (m : MethodId) (c0 : Int32) : entryFrame m #[(.int c0)] 1 = mkF m 0 #[.val (.int c0)] [] := by first | (simp [entryFrame, mkF, argsToLocals, Value.category]; done) | (rfl)
set_option maxRecDepth 65536 in
set_option maxHeartbeats 40000000 in
theorem rmVOf (l : Launch) (Z : State) (a0 : Array Value) (hw : ∀ d ∈ tables_1, d.before a0 Z = true) (c0 : Int32) (h0 : Heap) (O : Ext Z.heap h0) (z : Int32) (O2 : Sta Z Z.heap "java/lang/String" "COMPACT_STRINGS" "Z" (.int z)) (hz : ¬ z = 0) (r_c0 : ¬ c0 < 0 ∧ ¬ (255 : Int32) < c0) :
    MN l Z (⟨"java/lang/String", "valueOf", "(C)Ljava/lang/String;"⟩ : MethodName) jdk_42_method_139_code 1 (some (.object "java/lang/String")) [] ({ frames := 3, cells := 2, slots := 5, locals := 60 } : Room) #[(.int c0)] h0 [] (RV (fun w h => ∃ r, w = .ref r ∧ h0.size ≤ r ∧ Str Z h r [c0])) := by
  refine MN.mk (a0 := a0) rfl rfl (plainFor_of_name pn0) O (fun m => ef_rmVOf m c0) ?_
  intro pg ev s m below meth cd T hh X
  subst hh
  refine X.getS (pc' := 3) (wd4 hw) Via.refl O2 d1_0 rfl ?_
  intro T X
  refine X.ifN (pc' := 6) d1_3 ((if0 _ _).trans (feq hz).1) rfl ?_
  refine X.iloadN (pc' := 7) d1_6 rfl rfl ?_
  refine X.callP (pc' := 10) (X.sStatic (wd5 hw) (wd6 hw) (wd7 hw) (wd8 hw) (by decide) rfl pd1 [(.int c0)] rfl rfl d1_7) (rmCan l Z a0 hw c0 _ X.old r_c0) (wd8 hw) (wd7 hw) (leB rfl) (leB rfl) (leB rfl) (leB rfl) rfl ?_
  intro T L v X q
  subst q
  refine X.ifN (pc' := 13) d1_10 (by decide) rfl ?_
  refine X.newO (pc' := 16) (wd9 hw) (wd10 hw) (wd2 hw) d1_13 (by decide) (by decide) rfl ?_
  intro T h x1 g_x1 Ex lt_x1 E_x1 D_x1 X1
  have z_x1 : Z.heap.size ≤ x1 := by rw [g_x1]; exact X.old.1
  have s_x1 : s.heap.size ≤ x1 := by rw [g_x1]; exact X.kp.1
  replace X := X1
  have F_x1_value : Fld Z h x1 "java/lang/String" "value" "[B" .null := D_x1 (Or.inr (wd23 hw)) (ty := (.array .byte)) (by decide)
  have F_x1_coder : Fld Z h x1 "java/lang/String" "coder" "B" (.int (0 : Int32)) := D_x1 (Or.inr (wd25 hw)) (ty := .byte) (by decide)
  refine X.dup (pc' := 17) d1_16 rfl rfl ?_
  refine X.iloadN (pc' := 18) d1_17 rfl rfl ?_
  refine X.callV (pc' := 21) (X.sStatic (wd11 hw) (wd12 hw) (wd7 hw) (wd13 hw) (by decide) rfl pd2 [(.int c0)] rfl rfl d1_18) (rmToB l Z a0 hw c0 _ X.old) (wd13 hw) (wd7 hw) (leB rfl) (leB rfl) (leB rfl) (leB rfl) sf0 all0 all0 rfl ?_
  intro T h L v X K q
  obtain ⟨t1, ka_t1, rfl, le_t1, V_t1⟩ := q
  have ne_x1_t1 : x1 ≠ t1 := Nat.ne_of_lt (Nat.lt_of_lt_of_le lt_x1 le_t1)
  replace E_x1 := E_x1.keep K
  replace lt_x1 := Nat.lt_of_lt_of_le lt_x1 K.1
  replace F_x1_value := F_x1_value.keep K nin0
  replace F_x1_coder := F_x1_coder.keep K nin0
  refine X.iconst (pc' := 22) (0 : Int32) d1_21 rfl rfl ?_
  refine X.callU (pc' := 25) (X.sSpecial rfl (wd15 hw) (wd16 hw) (wd18 hw) (by decide) rfl pd3 [(.ref t1), (.int (0 : Int32))] rfl rfl d1_22) (rmBB l Z a0 hw x1 t1 _ X.old z_x1 E_x1 F_x1_value F_x1_coder) (wd18 hw) (wd2 hw) (leB rfl) (leB rfl) (leB rfl) (leB rfl) (sfS safeE sf0) (allS z_x1 all0) (allS (Or.inr s_x1) all0) rfl ?_
  intro T h L X K q
  replace E_x1 := E_x1.keep K
  replace lt_x1 := Nat.lt_of_lt_of_le lt_x1 K.1
  replace V_t1 := V_t1.keep K (ninS (Ne.symm ne_x1_t1) nin0)
  exact X.retAN rfl rfl d1_25 (by decide) (by decide) ⟨_, rfl, x1, rfl, s_x1, t1, ka_t1, 0, 1, _, q.1, q.2.1, q.2.2, V_t1, StrChars.Road.codOf (cs := [c0]) (n := 1) rfl (all1 r_c0.2), up16 (all1 r_c0), leB rfl⟩
set_option maxRecDepth 65536 in
set_option maxHeartbeats 40000000 in
theorem ef_rmRec (m : MethodId) (a1 : Addr) : entryFrame m #[(.ref a1)] 1 = mkF m 0 #[.val (.ref a1)] [] := by first | (simp [entryFrame, mkF, argsToLocals, Value.category]; done) | (rfl)
set_option maxRecDepth 65536 in
set_option maxHeartbeats 40000000 in
theorem rmRec (l : Launch) (Z : State) (a0 : Array Value) (hw : ∀ d ∈ tables_1, d.before a0 Z = true) (a1 : Addr) (h0 : Heap) (O : Ext Z.heap h0)  :
    MN l Z (⟨"java/lang/Record", "<init>", "()V"⟩ : MethodName) jdk_30_method_1_code 1 none [] ({ frames := 1, cells := 0, slots := 0, locals := 12 } : Room) #[(.ref a1)] h0 [] (RO h0) := by
  refine MN.mk (a0 := a0) rfl rfl (plainFor_of_name pn2) O (fun m => ef_rmRec m a1) ?_
  intro pg ev s m below meth cd T hh X
  subst hh
  refine X.aloadN (pc' := 1) d15_0 rfl rfl rfl ?_
  refine X.initO (pc' := 4) (wd79 hw) (wd20 hw) (wd21 hw) rfl d15_1 (leB rfl) (leB rfl) rfl ?_
  intro T X
  exact X.retUN d15_4 (by decide) (by decide) ⟨rfl, rfl⟩
set_option maxRecDepth 65536 in
set_option maxHeartbeats 40000000 in
theorem ef_rmACI (m : MethodId) (a1 : Addr) : entryFrame m #[(.ref a1)] 1 = mkF m 0 #[.val (.ref a1)] [] := by first | (simp [entryFrame, mkF, argsToLocals, Value.category]; done) | (rfl)
set_option maxRecDepth 65536 in
set_option maxHeartbeats 40000000 in
theorem rmACI (l : Launch) (Z : State) (a0 : Array Value) (hw : ∀ d ∈ tables_1, d.before a0 Z = true) (a1 : Addr) (h0 : Heap) (O : Ext Z.heap h0)  :
    MN l Z (⟨"java/util/AbstractCollection", "<init>", "()V"⟩ : MethodName) jdk_22_method_1_code 1 none [] ({ frames := 1, cells := 0, slots := 0, locals := 12 } : Room) #[(.ref a1)] h0 [] (RO h0) := by
  refine MN.mk (a0 := a0) rfl rfl (plainFor_of_name pn3) O (fun m => ef_rmACI m a1) ?_
  intro pg ev s m below meth cd T hh X
  subst hh
  refine X.aloadN (pc' := 1) d13_0 rfl rfl rfl ?_
  refine X.initO (pc' := 4) (wd62 hw) (wd20 hw) (wd21 hw) rfl d13_1 (leB rfl) (leB rfl) rfl ?_
  intro T X
  exact X.retUN d13_4 (by decide) (by decide) ⟨rfl, rfl⟩
set_option maxRecDepth 65536 in
set_option maxHeartbeats 40000000 in
theorem ef_rmABL (m : MethodId) (a1 : Addr) : entryFrame m #[(.ref a1)] 1 = mkF m 0 #[.val (.ref a1)] [] := by first | (simp [entryFrame, mkF, argsToLocals, Value.category]; done) | (rfl)
set_option maxRecDepth 65536 in
set_option maxHeartbeats 40000000 in
theorem rmABL (l : Launch) (Z : State) (a0 : Array Value) (hw : ∀ d ∈ tables_1, d.before a0 Z = true) (a1 : Addr) (h0 : Heap) (O : Ext Z.heap h0) (za : Z.heap.size ≤ a1) (ed : Value) (n mc : Int32) (A1 : AL Z h0 a1 ed n mc) :
    MN l Z (⟨"java/util/AbstractList", "<init>", "()V"⟩ : MethodName) jdk_39_method_1_code 1 none [] ({ frames := 2, cells := 0, slots := 0, locals := 30 } : Room) #[(.ref a1)] h0 [a1] (RU (fun h => AL Z h a1 ed n 0)) := by
  refine MN.mk (a0 := a0) rfl rfl (plainFor_of_name pn4) O (fun m => ef_rmABL m a1) ?_
  intro pg ev s m below meth cd T hh X
  subst hh
  obtain ⟨E_a1, F_a1_elementData, F_a1_size, F_a1_modCount⟩ := A1
  have lt_a1 := E_a1.lt
  refine X.aloadN (pc' := 1) d12_0 rfl rfl rfl ?_
  refine X.callO (pc' := 4) (X.sSpecial rfl (wd56 hw) (wd57 hw) (wd61 hw) (by decide) rfl pd4 [] rfl rfl d12_1) (rmACI l Z a0 hw a1 _ X.old) (wd61 hw) (wd60 hw) (leB rfl) (leB rfl) (leB rfl) (leB rfl) rfl ?_
  intro T L X
  refine X.aloadN (pc' := 5) d12_4 rfl rfl rfl ?_
  refine X.iconst (pc' := 6) (0 : Int32) d12_5 rfl rfl ?_
  refine X.putF (pc' := 9) (wd63 hw) Via.refl F_a1_modCount E_a1 (Or.inl (wd64 hw)) (wd45 hw) .int (by decide) rfl rfl safeE za (Or.inl (List.mem_of_getElem? (i := 0) rfl)) d12_6 rfl ?_
  intro T h L X W
  replace F_a1_elementData := F_a1_elementData.other W (Or.inr (slot_ne (Or.inl (wd67 hw)) (Or.inl (wd64 hw)) (by decide) (t := (.array (.object "java/lang/Object"))) (t' := .int) (by decide) (by decide)))
  replace F_a1_size := F_a1_size.other W (Or.inr (slot_ne (Or.inl (wd92 hw)) (Or.inl (wd64 hw)) (by decide) (t := .int) (t' := .int) (by decide) (by decide)))
  replace E_a1 := E_a1.wr W
  replace lt_a1 := Nat.lt_of_lt_of_le lt_a1 (Keep.of_wr W).1
  replace F_a1_modCount := F_a1_modCount.same W
  exact X.retUN d12_9 (by decide) (by decide) ⟨rfl, ⟨E_a1, F_a1_elementData, F_a1_size, F_a1_modCount⟩⟩
set_option maxRecDepth 65536 in
set_option maxHeartbeats 40000000 in
theorem ef_rmALI (m : MethodId) (a1 : Addr) : entryFrame m #[(.ref a1)] 1 = mkF m 0 #[.val (.ref a1)] [] := by first | (simp [entryFrame, mkF, argsToLocals, Value.category]; done) | (rfl)
set_option maxRecDepth 65536 in
set_option maxHeartbeats 40000000 in
theorem rmALI (l : Launch) (Z : State) (a0 : Array Value) (hw : ∀ d ∈ tables_1, d.before a0 Z = true) (a1 : Addr) (h0 : Heap) (O : Ext Z.heap h0) (d0 : Addr) (SD : Sta Z Z.heap "java/util/ArrayList" "DEFAULTCAPACITY_EMPTY_ELEMENTDATA" "[Ljava/lang/Object;" (.ref d0)) (VD : Emp Z Z.heap d0) (za : Z.heap.size ≤ a1) (A1 : AL Z h0 a1 .null 0 0) :
    MN l Z (⟨"java/util/ArrayList", "<init>", "()V"⟩ : MethodName) jdk_38_method_2_code 1 none [] ({ frames := 3, cells := 0, slots := 0, locals := 50 } : Room) #[(.ref a1)] h0 [a1] (RU (fun h => AL Z h a1 (.ref d0) 0 0)) := by
  refine MN.mk (a0 := a0) rfl rfl (plainFor_of_name pn5) O (fun m => ef_rmALI m a1) ?_
  intro pg ev s m below meth cd T hh X
  subst hh
  refine X.aloadN (pc' := 1) d11_0 rfl rfl rfl ?_
  refine X.callU (pc' := 4) (X.sSpecial rfl (wd50 hw) (wd51 hw) (wd55 hw) (by decide) rfl pd4 [] rfl rfl d11_1) (rmABL l Z a0 hw a1 _ X.old za _ _ _ A1) (wd55 hw) (wd54 hw) (leB rfl) (leB rfl) (leB rfl) (leB rfl) (sfS safeE sf0) (allS za all0) (allS (Or.inl (List.mem_of_getElem? (i := 0) rfl)) all0) rfl ?_
  intro T h L X K A2
  obtain ⟨E_a1, F_a1_elementData, F_a1_size, F_a1_modCount⟩ := A2
  have lt_a1 := E_a1.lt
  refine X.aloadN (pc' := 5) d11_4 rfl rfl rfl ?_
  refine X.getS (pc' := 8) (wd65 hw) Via.refl SD d11_5 rfl ?_
  intro T X
  refine X.putF (pc' := 11) (wd66 hw) Via.refl F_a1_elementData E_a1 (Or.inl (wd67 hw)) (wd45 hw) (.array (.object "java/lang/Object")) (by decide) rfl rfl safeE za (Or.inl (List.mem_of_getElem? (i := 0) rfl)) d11_8 rfl ?_
  intro T h L X W
  replace F_a1_size := F_a1_size.other W (Or.inr (slot_ne (Or.inl (wd92 hw)) (Or.inl (wd67 hw)) (by decide) (t := .int) (t' := (.array (.object "java/lang/Object"))) (by decide) (by decide)))
  replace F_a1_modCount := F_a1_modCount.other W (Or.inr (slot_ne (Or.inl (wd64 hw)) (Or.inl (wd67 hw)) (by decide) (t := .int) (t' := (.array (.object "java/lang/Object"))) (by decide) (by decide)))
  replace E_a1 := E_a1.wr W
  replace lt_a1 := Nat.lt_of_lt_of_le lt_a1 (Keep.of_wr W).1
  replace F_a1_elementData := F_a1_elementData.same W
  exact X.retUN d11_11 (by decide) (by decide) ⟨rfl, ⟨E_a1, F_a1_elementData, F_a1_size, F_a1_modCount⟩⟩
set_option maxRecDepth 65536 in
set_option maxHeartbeats 40000000 in
theorem ef_rmMax10 (m : MethodId)  : entryFrame m #[(.int (10 : Int32)), (.int (1 : Int32))] 2 = mkF m 0 #[.val (.int (10 : Int32)), .val (.int (1 : Int32))] [] := by first | (simp [entryFrame, mkF, argsToLocals, Value.category]; done) | (rfl)
set_option maxRecDepth 65536 in
set_option maxHeartbeats 40000000 in
theorem rmMax10 (l : Launch) (Z : State) (a0 : Array Value) (hw : ∀ d ∈ tables_1, d.before a0 Z = true)  (h0 : Heap) (O : Ext Z.heap h0)  :
    MN l Z (⟨"java/lang/Math", "max", "(II)I"⟩ : MethodName) jdk_29_method_65_code 2 (some .int) [] ({ frames := 0, cells := 0, slots := 0, locals := 0 } : Room) #[(.int (10 : Int32)), (.int (1 : Int32))] h0 [] (RP h0 (fun w => w = .int 10)) := by
  refine MN.mk (a0 := a0) rfl rfl pf20 O (fun m => ef_rmMax10 m ) ?_
  intro pg ev s m below meth cd T hh X
  subst hh
  refine X.iloadN (pc' := 1) d20_0 rfl rfl ?_
  refine X.iloadN (pc' := 2) d20_1 rfl rfl ?_
  refine X.icN (pc' := 5) d20_2 (by decide) rfl ?_
  refine X.iloadN (pc' := 6) d20_5 rfl rfl ?_
  refine X.goto (pc' := 10) d20_6 (by decide) (by decide) ?_
  exact X.retIN (by simp) rfl d20_10 (by decide) (by decide) ⟨_, rfl, rfl, rfl⟩
set_option maxRecDepth 65536 in
set_option maxHeartbeats 40000000 in
theorem ef_rmG1 (m : MethodId) (a1 : Addr) : entryFrame m #[(.ref a1), (.int (1 : Int32))] 4 = mkF m 0 #[.val (.ref a1), .val (.int (1 : Int32)), .unset, .unset] [] := by first | (simp [entryFrame, mkF, argsToLocals, Value.category]; done) | (rfl)
set_option maxRecDepth 65536 in
set_option maxHeartbeats 40000000 in
theorem rmG1 (l : Launch) (Z : State) (a0 : Array Value) (hw : ∀ d ∈ tables_1, d.before a0 Z = true) (a1 : Addr) (h0 : Heap) (O : Ext Z.heap h0) (d0 : Addr) (SD : Sta Z Z.heap "java/util/ArrayList" "DEFAULTCAPACITY_EMPTY_ELEMENTDATA" "[Ljava/lang/Object;" (.ref d0)) (VD : Emp Z Z.heap d0) (za : Z.heap.size ≤ a1) (mc : Int32) (A1 : AL Z h0 a1 (.ref d0) 0 mc) :
    MN l Z (⟨"java/util/ArrayList", "grow", "(I)[Ljava/lang/Object;"⟩ : MethodName) jdk_38_method_6_code 4 (some (.array (.object "java/lang/Object"))) [] ({ frames := 1, cells := 1, slots := 10, locals := 20 } : Room) #[(.ref a1), (.int (1 : Int32))] h0 [a1] (RV (fun w h => ∃ d, w = .ref d ∧ h0.size ≤ d ∧ AL Z h a1 (.ref d) 0 mc ∧ OA Z h d 10 [(.null), (.null), (.null), (.null), (.null), (.null), (.null), (.null), (.null), (.null)])) := by
  refine MN.mk (a0 := a0) rfl rfl (plainFor_of_name pn5) O (fun m => ef_rmG1 m a1) ?_
  intro pg ev s m below meth cd T hh X
  subst hh
  obtain ⟨E_a1, F_a1_elementData, F_a1_size, F_a1_modCount⟩ := A1
  have lt_a1 := E_a1.lt
  refine X.aloadN (pc' := 1) d19_0 rfl rfl rfl ?_
  refine X.getF (pc' := 4) (wd66 hw) Via.refl F_a1_elementData d19_1 rfl ?_
  intro T X
  refine X.alen0 (pc' := 5) (VD.ext X.old) d19_4 rfl ?_
  refine X.istoreN (pc' := 6) #[.val (.ref a1), .val (.int (1 : Int32)), .val (.int (0 : Int32)), .unset] d19_5 rfl rfl ?_
  refine X.iloadN (pc' := 7) d19_6 rfl rfl ?_
  refine X.ifN (pc' := 10) d19_7 (by decide) rfl ?_
  refine X.aloadN (pc' := 11) d19_10 rfl rfl rfl ?_
  refine X.getF (pc' := 14) (wd66 hw) Via.refl F_a1_elementData d19_11 rfl ?_
  intro T X
  refine X.getS (pc' := 17) (wd65 hw) Via.refl SD d19_14 rfl ?_
  intro T X
  refine X.acmp (pc' := 45) d19_17 rfl rfl true (by simp) (by decide) (by decide) ?_
  refine X.aloadN (pc' := 46) d19_45 rfl rfl rfl ?_
  refine X.bipush (pc' := 48) (10 : Int32) d19_46 rfl rfl ?_
  refine X.iloadN (pc' := 49) d19_48 rfl rfl ?_
  refine X.callP (pc' := 52) (X.sStatic (wd108 hw) (wd109 hw) (wd110 hw) (wd111 hw) (by decide) rfl pd5 [(.int (10 : Int32)), (.int (1 : Int32))] rfl rfl d19_49) (rmMax10 l Z a0 hw _ X.old) (wd111 hw) (wd110 hw) (leB rfl) (leB rfl) (leB rfl) (leB rfl) rfl ?_
  intro T L v X q
  subst q
  refine X.newR (pc' := 55) (ad := "[Ljava/lang/Object;") (wd112 hw) (wd113 hw) (by decide) d19_52 (by decide) 10 (by decide) (by decide) (by decide) (by decide) rfl ?_
  intro T h d ka_d g_d Ex lt_d V_d Ea_d Ov_d X1
  have z_d : Z.heap.size ≤ d := by rw [g_d]; exact X.old.1
  have s_d : s.heap.size ≤ d := by rw [g_d]; exact X.kp.1
  have ne_a1_d : a1 ≠ d := Nat.ne_of_lt (by rw [g_d]; exact lt_a1)
  replace F_a1_elementData := F_a1_elementData.ext Ex
  replace F_a1_size := F_a1_size.ext Ex
  replace F_a1_modCount := F_a1_modCount.ext Ex
  replace E_a1 := E_a1.ext Ex
  replace lt_a1 := Nat.lt_of_lt_of_le lt_a1 Ex.1
  replace X := X1
  have V_d : OA Z h d (10 : Int32) [(.null), (.null), (.null), (.null), (.null), (.null), (.null), (.null), (.null), (.null)] := ⟨ka_d, (Arv.pad V_d (pad_rep [] .null 10)), Ov_d, Ea_d⟩
  refine X.dupX1 (pc' := 56) d19_55 rfl rfl rfl ?_
  refine X.putF (pc' := 59) (wd66 hw) Via.refl F_a1_elementData E_a1 (Or.inl (wd67 hw)) (wd45 hw) (.array (.object "java/lang/Object")) (by decide) rfl rfl safeE za (Or.inl (List.mem_of_getElem? (i := 0) rfl)) d19_56 rfl ?_
  intro T h L X W
  replace F_a1_size := F_a1_size.other W (Or.inr (slot_ne (Or.inl (wd92 hw)) (Or.inl (wd67 hw)) (by decide) (t := .int) (t' := (.array (.object "java/lang/Object"))) (by decide) (by decide)))
  replace F_a1_modCount := F_a1_modCount.other W (Or.inr (slot_ne (Or.inl (wd64 hw)) (Or.inl (wd67 hw)) (by decide) (t := .int) (t' := (.array (.object "java/lang/Object"))) (by decide) (by decide)))
  replace E_a1 := E_a1.wr W
  replace lt_a1 := Nat.lt_of_lt_of_le lt_a1 (Keep.of_wr W).1
  replace V_d := V_d.other W (Ne.symm ne_a1_d)
  replace lt_d := Nat.lt_of_lt_of_le lt_d (Keep.of_wr W).1
  replace F_a1_elementData := F_a1_elementData.same W
  exact X.retAN rfl rfl d19_59 (by decide) (by decide) ⟨_, rfl, d, rfl, s_d, ⟨E_a1, F_a1_elementData, F_a1_size, F_a1_modCount⟩, V_d⟩
set_option maxRecDepth 65536 in
set_option maxHeartbeats 40000000 in
theorem ef_rmG0 (m : MethodId) (a1 : Addr) : entryFrame m #[(.ref a1)] 1 = mkF m 0 #[.val (.ref a1)] [] := by first | (simp [entryFrame, mkF, argsToLocals, Value.category]; done) | (rfl)
set_option maxRecDepth 65536 in
set_option maxHeartbeats 40000000 in
theorem rmG0 (l : Launch) (Z : State) (a0 : Array Value) (hw : ∀ d ∈ tables_1, d.before a0 Z = true) (a1 : Addr) (h0 : Heap) (O : Ext Z.heap h0) (d0 : Addr) (SD : Sta Z Z.heap "java/util/ArrayList" "DEFAULTCAPACITY_EMPTY_ELEMENTDATA" "[Ljava/lang/Object;" (.ref d0)) (VD : Emp Z Z.heap d0) (za : Z.heap.size ≤ a1) (mc : Int32) (A1 : AL Z h0 a1 (.ref d0) 0 mc) :
    MN l Z (⟨"java/util/ArrayList", "grow", "()[Ljava/lang/Object;"⟩ : MethodName) jdk_38_method_7_code 1 (some (.array (.object "java/lang/Object"))) [] ({ frames := 2, cells := 1, slots := 10, locals := 40 } : Room) #[(.ref a1)] h0 [a1] (RV (fun w h => ∃ d, w = .ref d ∧ h0.size ≤ d ∧ AL Z h a1 (.ref d) 0 mc ∧ OA Z h d 10 [(.null), (.null), (.null), (.null), (.null), (.null), (.null), (.null), (.null), (.null)])) := by
  refine MN.mk (a0 := a0) rfl rfl (plainFor_of_name pn5) O (fun m => ef_rmG0 m a1) ?_
  intro pg ev s m below meth cd T hh X
  subst hh
  refine X.aloadN (pc' := 1) d18_0 rfl rfl rfl ?_
  refine X.aloadN (pc' := 2) d18_1 rfl rfl rfl ?_
  refine X.getF (pc' := 5) (wd91 hw) Via.refl A1.2.2.1 d18_2 rfl ?_
  intro T X
  refine X.iconst (pc' := 6) (1 : Int32) d18_5 rfl rfl ?_
  refine X.iadd (pc' := 7) d18_6 rfl ?_
  rw [show (((0 : Int32) + (1 : Int32)) : Int32) = (1 : Int32) from by decide]
  refine X.callV (pc' := 10) (X.sPrivate (wd103 hw) (wd104 hw) (wd106 hw) (wd105 hw) (wd107 hw) (by decide) rfl pd6 A1.1 [(.int (1 : Int32))] rfl rfl d18_7) (rmG1 l Z a0 hw a1 _ X.old d0 SD VD za mc A1) (wd107 hw) (wd46 hw) (leB rfl) (leB rfl) (leB rfl) (leB rfl) (sfS safeE sf0) (allS za all0) (allS (Or.inl (List.mem_of_getElem? (i := 0) rfl)) all0) rfl ?_
  intro T h L v X K q
  obtain ⟨d, rfl, le_d, A2, V_d⟩ := q
  exact X.retAN rfl rfl d18_10 (by decide) (by decide) ⟨_, rfl, d, rfl, le_d, A2, V_d⟩
set_option maxRecDepth 65536 in
set_option maxHeartbeats 40000000 in
theorem ef_rmA3F (m : MethodId) (a1 : Addr) (e : Addr) (d0 : Addr) : entryFrame m #[(.ref a1), (.ref e), (.ref d0), (.int (0 : Int32))] 4 = mkF m 0 #[.val (.ref a1), .val (.ref e), .val (.ref d0), .val (.int (0 : Int32))] [] := by first | (simp [entryFrame, mkF, argsToLocals, Value.category]; done) | (rfl)
set_option maxRecDepth 65536 in
set_option maxHeartbeats 40000000 in
theorem rmA3F (l : Launch) (Z : State) (a0 : Array Value) (hw : ∀ d ∈ tables_1, d.before a0 Z = true) (a1 : Addr) (e : Addr) (d0 : Addr) (h0 : Heap) (O : Ext Z.heap h0) (d0 : Addr) (SD : Sta Z Z.heap "java/util/ArrayList" "DEFAULTCAPACITY_EMPTY_ELEMENTDATA" "[Ljava/lang/Object;" (.ref d0)) (VD : Emp Z Z.heap d0) (za : Z.heap.size ≤ a1) (mc : Int32) (A1 : AL Z h0 a1 (.ref d0) 0 mc) (Ce : String) (wce : (Cond.castable Ce "java/lang/Object").before a0 Z = true) (E_e : Exa Z h0 e Ce) :
    MN l Z (⟨"java/util/ArrayList", "add", "(Ljava/lang/Object;[Ljava/lang/Object;I)V"⟩ : MethodName) jdk_38_method_24_code 4 none [] ({ frames := 3, cells := 1, slots := 10, locals := 60 } : Room) #[(.ref a1), (.ref e), (.ref d0), (.int (0 : Int32))] h0 [a1] (RU (fun h => ∃ d, h0.size ≤ d ∧ AL Z h a1 (.ref d) 1 mc ∧ OA Z h d 10 [(.ref e), (.null), (.null), (.null), (.null), (.null), (.null), (.null), (.null), (.null)])) := by
  refine MN.mk (a0 := a0) rfl rfl (plainFor_of_name pn5) O (fun m => ef_rmA3F m a1 e d0) ?_
  intro pg ev s m below meth cd T hh X
  subst hh
  have lt_a1 := A1.lt
  refine X.iloadN (pc' := 1) d17_0 rfl rfl ?_
  refine X.aloadN (pc' := 2) d17_1 rfl rfl rfl ?_
  refine X.alen0 (pc' := 3) (VD.ext X.old) d17_2 rfl ?_
  refine X.icN (pc' := 6) d17_3 (by decide) rfl ?_
  refine X.aloadN (pc' := 7) d17_6 rfl rfl rfl ?_
  refine X.callV (pc' := 10) (X.sPrivate (wd98 hw) (wd99 hw) (wd101 hw) (wd100 hw) (wd102 hw) (by decide) rfl pd7 A1.1 [] rfl rfl d17_7) (rmG0 l Z a0 hw a1 _ X.old d0 SD VD za mc A1) (wd102 hw) (wd46 hw) (leB rfl) (leB rfl) (leB rfl) (leB rfl) (sfS safeE sf0) (allS za all0) (allS (Or.inl (List.mem_of_getElem? (i := 0) rfl)) all0) rfl ?_
  intro T h L v X K q
  obtain ⟨d, rfl, le_d, A2, V_d⟩ := q
  have ne_a1_d : a1 ≠ d := Nat.ne_of_lt (Nat.lt_of_lt_of_le lt_a1 le_d)
  have z_d := Nat.le_trans O.1 le_d
  replace lt_a1 := Nat.lt_of_lt_of_le lt_a1 K.1
  replace E_e := E_e.keep K
  clear lt_a1
  obtain ⟨E_a1, F_a1_elementData, F_a1_size, F_a1_modCount⟩ := A2
  have lt_a1 := E_a1.lt
  refine X.astoreN (pc' := 11) #[.val (.ref a1), .val (.ref e), .val (.ref d), .val (.int (0 : Int32))] d17_10 rfl rfl rfl ?_
  refine X.aloadN (pc' := 12) d17_11 rfl rfl rfl ?_
  refine X.iloadN (pc' := 13) d17_12 rfl rfl ?_
  refine X.aloadN (pc' := 14) d17_13 rfl rfl rfl ?_
  obtain ⟨kd, Vd, Od, Ed⟩ := V_d
  refine X.aastore (pc' := 15) Vd Od (Ins.of_exa E_e wce) ⟨by decide, by decide⟩ 0 rfl (leB rfl) z_d (Or.inr le_d) d17_14 rfl ?_
  intro T h L X W V1
  replace E_e := E_e.wr W
  replace F_a1_elementData := F_a1_elementData.other W (Or.inl ne_a1_d)
  replace F_a1_size := F_a1_size.other W (Or.inl ne_a1_d)
  replace F_a1_modCount := F_a1_modCount.other W (Or.inl ne_a1_d)
  replace E_a1 := E_a1.wr W
  replace lt_a1 := Nat.lt_of_lt_of_le lt_a1 (Keep.of_wr W).1
  replace Ed := Ed.wr W
  have V_d : OA Z h d (10 : Int32) [(.ref e), (.null), (.null), (.null), (.null), (.null), (.null), (.null), (.null), (.null)] := ⟨kd, V1, Od, Ed⟩
  refine X.aloadN (pc' := 16) d17_15 rfl rfl rfl ?_
  refine X.iloadN (pc' := 17) d17_16 rfl rfl ?_
  refine X.iconst (pc' := 18) (1 : Int32) d17_17 rfl rfl ?_
  refine X.iadd (pc' := 19) d17_18 rfl ?_
  rw [show (((0 : Int32) + (1 : Int32)) : Int32) = (1 : Int32) from by decide]
  refine X.putF (pc' := 22) (wd91 hw) Via.refl F_a1_size E_a1 (Or.inl (wd92 hw)) (wd45 hw) .int (by decide) rfl rfl safeE za (Or.inl (List.mem_of_getElem? (i := 0) rfl)) d17_19 rfl ?_
  intro T h L X W
  replace E_e := E_e.wr W
  replace F_a1_elementData := F_a1_elementData.other W (Or.inr (slot_ne (Or.inl (wd67 hw)) (Or.inl (wd92 hw)) (by decide) (t := (.array (.object "java/lang/Object"))) (t' := .int) (by decide) (by decide)))
  replace F_a1_modCount := F_a1_modCount.other W (Or.inr (slot_ne (Or.inl (wd64 hw)) (Or.inl (wd92 hw)) (by decide) (t := .int) (t' := .int) (by decide) (by decide)))
  replace E_a1 := E_a1.wr W
  replace lt_a1 := Nat.lt_of_lt_of_le lt_a1 (Keep.of_wr W).1
  replace V_d := V_d.other W (Ne.symm ne_a1_d)
  replace F_a1_size := F_a1_size.same W
  exact X.retUN d17_22 (by decide) (by decide) ⟨rfl, d, le_d, ⟨E_a1, F_a1_elementData, F_a1_size, F_a1_modCount⟩, V_d⟩
set_option maxRecDepth 65536 in
set_option maxHeartbeats 40000000 in
theorem ef_rmA3N (m : MethodId) (a1 : Addr) (e : Addr) (d : Addr) (n : Int32) : entryFrame m #[(.ref a1), (.ref e), (.ref d), (.int n)] 4 = mkF m 0 #[.val (.ref a1), .val (.ref e), .val (.ref d), .val (.int n)] [] := by first | (simp [entryFrame, mkF, argsToLocals, Value.category]; done) | (rfl)
set_option maxRecDepth 65536 in
set_option maxHeartbeats 40000000 in
theorem rmA3N (l : Launch) (Z : State) (a0 : Array Value) (hw : ∀ d ∈ tables_1, d.before a0 Z = true) (a1 : Addr) (e : Addr) (d : Addr) (n : Int32) (h0 : Heap) (O : Ext Z.heap h0) (za : Z.heap.size ≤ a1) (zd : Z.heap.size ≤ d) (ne1 : a1 ≠ d) (mc : Int32) (A1 : AL Z h0 a1 (.ref d) n mc) (vs : List Value) (hvs : vs.length = 10) (V_d : OA Z h0 d 10 vs) (i : Nat) (hi : n.toNatClampNeg = i) (hi10 : i < 10) (hj : ¬ n < 0 ∧ n < 10) (hn10 : ¬ n = 10) (Ce : String) (wce : (Cond.castable Ce "java/lang/Object").before a0 Z = true) (E_e : Exa Z h0 e Ce) :
    MN l Z (⟨"java/util/ArrayList", "add", "(Ljava/lang/Object;[Ljava/lang/Object;I)V"⟩ : MethodName) jdk_38_method_24_code 4 none [] ({ frames := 0, cells := 0, slots := 0, locals := 0 } : Room) #[(.ref a1), (.ref e), (.ref d), (.int n)] h0 [a1, d] (RU (fun h => AL Z h a1 (.ref d) (n + 1) mc ∧ OA Z h d 10 (vs.set i (.ref e)))) := by
  refine MN.mk (a0 := a0) rfl rfl (plainFor_of_name pn5) O (fun m => ef_rmA3N m a1 e d n) ?_
  intro pg ev s m below meth cd T hh X
  subst hh
  obtain ⟨E_a1, F_a1_elementData, F_a1_size, F_a1_modCount⟩ := A1
  have lt_a1 := E_a1.lt
  obtain ⟨kd, Vd, Od, Ed⟩ := V_d
  refine X.iloadN (pc' := 1) d17_0 rfl rfl ?_
  refine X.aloadN (pc' := 2) d17_1 rfl rfl rfl ?_
  refine X.alen (pc' := 3) Vd d17_2 rfl ?_
  refine X.icY (pc' := 11) d17_3 ((feq hn10).2) (by decide) (by decide) ?_
  refine X.aloadN (pc' := 12) d17_11 rfl rfl rfl ?_
  refine X.iloadN (pc' := 13) d17_12 rfl rfl ?_
  refine X.aloadN (pc' := 14) d17_13 rfl rfl rfl ?_
  refine X.aastore (pc' := 15) Vd Od (Ins.of_exa E_e wce) hj i hi (by rw [hvs]; exact hi10) zd (Or.inl (List.mem_of_getElem? (i := 1) rfl)) d17_14 rfl ?_
  intro T h L X W V1
  replace F_a1_elementData := F_a1_elementData.other W (Or.inl ne1)
  replace F_a1_size := F_a1_size.other W (Or.inl ne1)
  replace F_a1_modCount := F_a1_modCount.other W (Or.inl ne1)
  replace E_a1 := E_a1.wr W
  replace lt_a1 := Nat.lt_of_lt_of_le lt_a1 (Keep.of_wr W).1
  replace E_e := E_e.wr W
  replace Ed := Ed.wr W
  refine X.aloadN (pc' := 16) d17_15 rfl rfl rfl ?_
  refine X.iloadN (pc' := 17) d17_16 rfl rfl ?_
  refine X.iconst (pc' := 18) (1 : Int32) d17_17 rfl rfl ?_
  refine X.iadd (pc' := 19) d17_18 rfl ?_
  refine X.putF (pc' := 22) (wd91 hw) Via.refl F_a1_size E_a1 (Or.inl (wd92 hw)) (wd45 hw) .int (by decide) rfl rfl safeE za (Or.inl (List.mem_of_getElem? (i := 0) rfl)) d17_19 rfl ?_
  intro T h L X W
  replace F_a1_elementData := F_a1_elementData.other W (Or.inr (slot_ne (Or.inl (wd67 hw)) (Or.inl (wd92 hw)) (by decide) (t := (.array (.object "java/lang/Object"))) (t' := .int) (by decide) (by decide)))
  replace F_a1_modCount := F_a1_modCount.other W (Or.inr (slot_ne (Or.inl (wd64 hw)) (Or.inl (wd92 hw)) (by decide) (t := .int) (t' := .int) (by decide) (by decide)))
  replace E_a1 := E_a1.wr W
  replace lt_a1 := Nat.lt_of_lt_of_le lt_a1 (Keep.of_wr W).1
  replace E_e := E_e.wr W
  replace Ed := Ed.wr W
  replace F_a1_size := F_a1_size.same W
  replace V1 := V1.other W (Ne.symm ne1)
  exact X.retUN d17_22 (by decide) (by decide) ⟨rfl, ⟨E_a1, F_a1_elementData, F_a1_size, F_a1_modCount⟩, kd, V1, Od, Ed⟩
set_option maxRecDepth 65536 in
set_option maxHeartbeats 40000000 in
theorem ef_rmAddF (m : MethodId) (a1 : Addr) (e : Addr) : entryFrame m #[(.ref a1), (.ref e)] 2 = mkF m 0 #[.val (.ref a1), .val (.ref e)] [] := by first | (simp [entryFrame, mkF, argsToLocals, Value.category]; done) | (rfl)
set_option maxRecDepth 65536 in
set_option maxHeartbeats 40000000 in
theorem rmAddF (l : Launch) (Z : State) (a0 : Array Value) (hw : ∀ d ∈ tables_1, d.before a0 Z = true) (a1 : Addr) (e : Addr) (h0 : Heap) (O : Ext Z.heap h0) (d0 : Addr) (SD : Sta Z Z.heap "java/util/ArrayList" "DEFAULTCAPACITY_EMPTY_ELEMENTDATA" "[Ljava/lang/Object;" (.ref d0)) (VD : Emp Z Z.heap d0) (za : Z.heap.size ≤ a1) (mc : Int32) (A1 : AL Z h0 a1 (.ref d0) 0 mc) (Ce : String) (wce : (Cond.castable Ce "java/lang/Object").before a0 Z = true) (E_e : Exa Z h0 e Ce) :
    MN l Z (⟨"java/util/ArrayList", "add", "(Ljava/lang/Object;)Z"⟩ : MethodName) jdk_38_method_25_code 2 (some .boolean) [] ({ frames := 4, cells := 1, slots := 10, locals := 80 } : Room) #[(.ref a1), (.ref e)] h0 [a1] (RV (fun w h => w = .int 1 ∧ ∃ d, h0.size ≤ d ∧ AL Z h a1 (.ref d) 1 (mc + 1) ∧ OA Z h d 10 [(.ref e), (.null), (.null), (.null), (.null), (.null), (.null), (.null), (.null), (.null)])) := by
  refine MN.mk (a0 := a0) rfl rfl (plainFor_of_name pn5) O (fun m => ef_rmAddF m a1 e) ?_
  intro pg ev s m below meth cd T hh X
  subst hh
  obtain ⟨E_a1, F_a1_elementData, F_a1_size, F_a1_modCount⟩ := A1
  have lt_a1 := E_a1.lt
  refine X.aloadN (pc' := 1) d16_0 rfl rfl rfl ?_
  refine X.dup (pc' := 2) d16_1 rfl rfl ?_
  refine X.getF (pc' := 5) (wd89 hw) (Via.of (wd90 hw)) F_a1_modCount d16_2 rfl ?_
  intro T X
  refine X.iconst (pc' := 6) (1 : Int32) d16_5 rfl rfl ?_
  refine X.iadd (pc' := 7) d16_6 rfl ?_
  refine X.putF (pc' := 10) (wd89 hw) (Via.of (wd90 hw)) F_a1_modCount E_a1 (Or.inl (wd64 hw)) (wd45 hw) .int (by decide) rfl rfl safeE za (Or.inl (List.mem_of_getElem? (i := 0) rfl)) d16_7 rfl ?_
  intro T h L X W
  have W0 := W.size
  replace F_a1_elementData := F_a1_elementData.other W (Or.inr (slot_ne (Or.inl (wd67 hw)) (Or.inl (wd64 hw)) (by decide) (t := (.array (.object "java/lang/Object"))) (t' := .int) (by decide) (by decide)))
  replace F_a1_size := F_a1_size.other W (Or.inr (slot_ne (Or.inl (wd92 hw)) (Or.inl (wd64 hw)) (by decide) (t := .int) (t' := .int) (by decide) (by decide)))
  replace E_a1 := E_a1.wr W
  replace lt_a1 := Nat.lt_of_lt_of_le lt_a1 (Keep.of_wr W).1
  replace E_e := E_e.wr W
  replace F_a1_modCount := F_a1_modCount.same W
  refine X.aloadN (pc' := 11) d16_10 rfl rfl rfl ?_
  refine X.aloadN (pc' := 12) d16_11 rfl rfl rfl ?_
  refine X.aloadN (pc' := 13) d16_12 rfl rfl rfl ?_
  refine X.getF (pc' := 16) (wd66 hw) Via.refl F_a1_elementData d16_13 rfl ?_
  intro T X
  refine X.aloadN (pc' := 17) d16_16 rfl rfl rfl ?_
  refine X.getF (pc' := 20) (wd91 hw) Via.refl F_a1_size d16_17 rfl ?_
  intro T X
  refine X.callU (pc' := 23) (X.sPrivate (wd93 hw) (wd94 hw) (wd96 hw) (wd95 hw) (wd97 hw) (by decide) rfl pd8 E_a1 [(.ref e), (.ref d0), (.int (0 : Int32))] rfl rfl d16_20) (rmA3F l Z a0 hw a1 e d0 _ X.old d0 SD VD za _ ⟨E_a1, F_a1_elementData, F_a1_size, F_a1_modCount⟩ Ce wce E_e) (wd97 hw) (wd46 hw) (leB rfl) (leB rfl) (leB rfl) (leB rfl) (sfS safeE sf0) (allS za all0) (allS (Or.inl (List.mem_of_getElem? (i := 0) rfl)) all0) rfl ?_
  intro T h L X K q
  refine X.iconst (pc' := 24) (1 : Int32) d16_23 rfl rfl ?_
  obtain ⟨d, le_d, A2, V_d⟩ := q
  exact X.retIN (by simp) rfl d16_24 (by decide) (by decide) ⟨_, rfl, rfl, d, Nat.le_trans (Nat.le_of_eq W0.symm) le_d, A2, V_d⟩
set_option maxRecDepth 65536 in
set_option maxHeartbeats 40000000 in
theorem ef_rmAddN (m : MethodId) (a1 : Addr) (e : Addr) : entryFrame m #[(.ref a1), (.ref e)] 2 = mkF m 0 #[.val (.ref a1), .val (.ref e)] [] := by first | (simp [entryFrame, mkF, argsToLocals, Value.category]; done) | (rfl)
set_option maxRecDepth 65536 in
set_option maxHeartbeats 40000000 in
theorem rmAddN (l : Launch) (Z : State) (a0 : Array Value) (hw : ∀ d ∈ tables_1, d.before a0 Z = true) (a1 : Addr) (e : Addr) (h0 : Heap) (O : Ext Z.heap h0) (d : Addr) (n : Int32) (za : Z.heap.size ≤ a1) (zd : Z.heap.size ≤ d) (ne1 : a1 ≠ d) (mc : Int32) (A1 : AL Z h0 a1 (.ref d) n mc) (vs : List Value) (hvs : vs.length = 10) (V_d : OA Z h0 d 10 vs) (i : Nat) (hi : n.toNatClampNeg = i) (hi10 : i < 10) (hj : ¬ n < 0 ∧ n < 10) (hn10 : ¬ n = 10) (Ce : String) (wce : (Cond.castable Ce "java/lang/Object").before a0 Z = true) (E_e : Exa Z h0 e Ce) :
    MN l Z (⟨"java/util/ArrayList", "add", "(Ljava/lang/Object;)Z"⟩ : MethodName) jdk_38_method_25_code 2 (some .boolean) [] ({ frames := 1, cells := 0, slots := 0, locals := 30 } : Room) #[(.ref a1), (.ref e)] h0 [a1, d] (RV (fun w h => w = .int 1 ∧ AL Z h a1 (.ref d) (n + 1) (mc + 1) ∧ OA Z h d 10 (vs.set i (.ref e)))) := by
  refine MN.mk (a0 := a0) rfl rfl (plainFor_of_name pn5) O (fun m => ef_rmAddN m a1 e) ?_
  intro pg ev s m below meth cd T hh X
  subst hh
  obtain ⟨E_a1, F_a1_elementData, F_a1_size, F_a1_modCount⟩ := A1
  have lt_a1 := E_a1.lt
  refine X.aloadN (pc' := 1) d16_0 rfl rfl rfl ?_
  refine X.dup (pc' := 2) d16_1 rfl rfl ?_
  refine X.getF (pc' := 5) (wd89 hw) (Via.of (wd90 hw)) F_a1_modCount d16_2 rfl ?_
  intro T X
  refine X.iconst (pc' := 6) (1 : Int32) d16_5 rfl rfl ?_
  refine X.iadd (pc' := 7) d16_6 rfl ?_
  refine X.putF (pc' := 10) (wd89 hw) (Via.of (wd90 hw)) F_a1_modCount E_a1 (Or.inl (wd64 hw)) (wd45 hw) .int (by decide) rfl rfl safeE za (Or.inl (List.mem_of_getElem? (i := 0) rfl)) d16_7 rfl ?_
  intro T h L X W
  replace V_d := V_d.other W (Ne.symm ne1)
  replace F_a1_elementData := F_a1_elementData.other W (Or.inr (slot_ne (Or.inl (wd67 hw)) (Or.inl (wd64 hw)) (by decide) (t := (.array (.object "java/lang/Object"))) (t' := .int) (by decide) (by decide)))
  replace F_a1_size := F_a1_size.other W (Or.inr (slot_ne (Or.inl (wd92 hw)) (Or.inl (wd64 hw)) (by decide) (t := .int) (t' := .int) (by decide) (by decide)))
  replace E_a1 := E_a1.wr W
  replace lt_a1 := Nat.lt_of_lt_of_le lt_a1 (Keep.of_wr W).1
  replace E_e := E_e.wr W
  replace F_a1_modCount := F_a1_modCount.same W
  refine X.aloadN (pc' := 11) d16_10 rfl rfl rfl ?_
  refine X.aloadN (pc' := 12) d16_11 rfl rfl rfl ?_
  refine X.aloadN (pc' := 13) d16_12 rfl rfl rfl ?_
  refine X.getF (pc' := 16) (wd66 hw) Via.refl F_a1_elementData d16_13 rfl ?_
  intro T X
  refine X.aloadN (pc' := 17) d16_16 rfl rfl rfl ?_
  refine X.getF (pc' := 20) (wd91 hw) Via.refl F_a1_size d16_17 rfl ?_
  intro T X
  refine X.callU (pc' := 23) (X.sPrivate (wd93 hw) (wd94 hw) (wd96 hw) (wd95 hw) (wd97 hw) (by decide) rfl pd8 E_a1 [(.ref e), (.ref d), (.int n)] rfl rfl d16_20) (rmA3N l Z a0 hw a1 e d n _ X.old za zd ne1 _ ⟨E_a1, F_a1_elementData, F_a1_size, F_a1_modCount⟩ vs hvs V_d i hi hi10 hj hn10 Ce wce E_e) (wd97 hw) (wd46 hw) (leB rfl) (leB rfl) (leB rfl) (leB rfl) (sfS safeE (sfS safeE sf0)) (allS za (allS zd all0)) (allS (Or.inl (List.mem_of_getElem? (i := 0) rfl)) (allS (Or.inl (List.mem_of_getElem? (i := 1) rfl)) all0)) rfl ?_
  intro T h L X K q
  refine X.iconst (pc' := 24) (1 : Int32) d16_23 rfl rfl ?_
  exact X.retIN (by simp) rfl d16_24 (by decide) (by decide) ⟨_, rfl, rfl, q⟩
set_option maxRecDepth 65536 in
set_option maxHeartbeats 40000000 in
theorem ef_rmMin1 (m : MethodId)  : entryFrame m #[(.int (10 : Int32)), (.int (1 : Int32))] 2 = mkF m 0 #[.val (.int (10 : Int32)), .val (.int (1 : Int32))] [] := by first | (simp [entryFrame, mkF, argsToLocals, Value.category]; done) | (rfl)
set_option maxRecDepth 65536 in
set_option maxHeartbeats 40000000 in
theorem rmMin1 (l : Launch) (Z : State) (a0 : Array Value) (hw : ∀ d ∈ tables_1, d.before a0 Z = true)  (h0 : Heap) (O : Ext Z.heap h0)  :
    MN l Z (⟨"java/lang/Math", "min", "(II)I"⟩ : MethodName) jdk_29_method_69_code 2 (some .int) [] ({ frames := 0, cells := 0, slots := 0, locals := 0 } : Room) #[(.int (10 : Int32)), (.int (1 : Int32))] h0 [] (RP h0 (fun w => w = .int (1 : Int32))) := by
  refine MN.mk (a0 := a0) rfl rfl pf27 O (fun m => ef_rmMin1 m ) ?_
  intro pg ev s m below meth cd T hh X
  subst hh
  refine X.iloadN (pc' := 1) d27_0 rfl rfl ?_
  refine X.iloadN (pc' := 2) d27_1 rfl rfl ?_
  refine X.icY (pc' := 9) d27_2 (by decide) (by decide) (by decide) ?_
  refine X.iloadN (pc' := 10) d27_9 rfl rfl ?_
  exact X.retIN (by simp) rfl d27_10 (by decide) (by decide) ⟨_, rfl, rfl, rfl⟩
set_option maxRecDepth 65536 in
set_option maxHeartbeats 40000000 in
theorem ef_rmCo3_1 (m : MethodId) (d : Addr) (mo : Addr) : entryFrame m #[(.ref d), (.int (1 : Int32)), (.ref mo)] 4 = mkF m 0 #[.val (.ref d), .val (.int (1 : Int32)), .val (.ref mo), .unset] [] := by first | (simp [entryFrame, mkF, argsToLocals, Value.category]; done) | (rfl)
set_option maxRecDepth 65536 in
set_option maxHeartbeats 40000000 in
theorem rmCo3_1 (l : Launch) (Z : State) (a0 : Array Value) (hw : ∀ d ∈ tables_1, d.before a0 Z = true) (d : Addr) (mo : Addr) (h0 : Heap) (O : Ext Z.heap h0) (M_o : Mrr Z "[Ljava/lang/Object;" mo) (e0 : Addr) (C0 : String) (wc0 : (Cond.castable C0 "java/lang/Object").before a0 Z = true) (E_e0 : Exa Z h0 e0 C0) (V_d : OA Z h0 d 10 [(.ref e0), (.null), (.null), (.null), (.null), (.null), (.null), (.null), (.null), (.null)]) :
    MN l Z (⟨"java/util/Arrays", "copyOf", "([Ljava/lang/Object;ILjava/lang/Class;)[Ljava/lang/Object;"⟩ : MethodName) jdk_65_method_120_code 4 (some (.array (.object "java/lang/Object"))) [] ({ frames := 1, cells := 1, slots := 1, locals := 40 } : Room) #[(.ref d), (.int (1 : Int32)), (.ref mo)] h0 [] (RV (fun w h => ∃ r, w = .ref r ∧ h0.size ≤ r ∧ OA Z h r (1 : Int32) [(.ref e0)])) := by
  refine MN.mk (a0 := a0) rfl rfl (plainFor_of_name pn8) O (fun m => ef_rmCo3_1 m d mo) ?_
  intro pg ev s m below meth cd T hh X
  subst hh
  have lt_d := V_d.lt
  refine X.aloadN (pc' := 1) d26_0 rfl rfl rfl ?_
  refine X.ldcM (pc' := 3) (wd157 hw) M_o d26_1 rfl ?_
  intro T X
  refine X.acmp (pc' := 6) d26_3 rfl rfl true (by simp) (by decide) (by decide) ?_
  refine X.iloadN (pc' := 7) d26_6 rfl rfl ?_
  refine X.newR (pc' := 10) (ad := "[Ljava/lang/Object;") (wd158 hw) (wd113 hw) (by decide) d26_7 (by decide) 1 (by decide) (by decide) (by decide) (by decide) rfl ?_
  intro T h r ka_r g_r Ex lt_r V_r Ea_r Ov_r X1
  have z_r : Z.heap.size ≤ r := by rw [g_r]; exact X.old.1
  have s_r : s.heap.size ≤ r := by rw [g_r]; exact X.kp.1
  have ne_d_r : d ≠ r := Nat.ne_of_lt (by rw [g_r]; exact lt_d)
  replace V_d := V_d.ext Ex
  replace lt_d := Nat.lt_of_lt_of_le lt_d Ex.1
  replace E_e0 := E_e0.ext Ex
  replace X := X1
  have V_r : OA Z h r (1 : Int32) [(.null)] := ⟨ka_r, (Arv.pad V_r (pad_rep [] .null 1)), Ov_r, Ea_r⟩
  refine X.goto (pc' := 24) d26_10 (by decide) (by decide) ?_
  refine X.astoreN (pc' := 25) #[.val (.ref d), .val (.int (1 : Int32)), .val (.ref mo), .val (.ref r)] d26_24 rfl rfl rfl ?_
  refine X.aloadN (pc' := 26) d26_25 rfl rfl rfl ?_
  refine X.iconst (pc' := 27) (0 : Int32) d26_26 rfl rfl ?_
  refine X.aloadN (pc' := 28) d26_27 rfl rfl rfl ?_
  refine X.iconst (pc' := 29) (0 : Int32) d26_28 rfl rfl ?_
  refine X.aloadN (pc' := 30) d26_29 rfl rfl rfl ?_
  obtain ⟨kd, Vd, Od, Ed⟩ := V_d
  refine X.alen (pc' := 31) Vd d26_30 rfl ?_
  refine X.iloadN (pc' := 32) d26_31 rfl rfl ?_
  refine X.callP (pc' := 35) (X.sStatic (wd159 hw) (wd160 hw) (wd110 hw) (wd161 hw) (by decide) rfl pd5 [(.int (10 : Int32)), (.int (1 : Int32))] rfl rfl d26_32) (rmMin1 l Z a0 hw _ X.old) (wd161 hw) (wd110 hw) (leB rfl) (leB rfl) (leB rfl) (leB rfl) rfl ?_
  intro T L v X q
  subst q
  obtain ⟨kr, Vr, Or1, Er⟩ := V_r
  have Vr' := Vr
  obtain ⟨cr, Ar, qr, -⟩ := Vr'
  refine X.acopy (pc' := 38) (us := [(.ref e0)]) (wd162 hw) (wd165 hw) (wd163 hw) (wd164 hw) Vd Vr (Or.inr ⟨rfl, rfl, ⟨Sto.ofV Ar qr Or1 (Ins.of_exa E_e0 wc0), trivial⟩⟩) (by decide) (by decide) (by decide) (by decide) (by decide) rfl (by decide) safeE z_r (Or.inr s_r) rfl d26_35 (leB rfl) (by first | exact leB rfl | decide +kernel) rfl ?_
  intro T h L X K V1
  replace lt_d := Nat.lt_of_lt_of_le lt_d K.1
  replace E_e0 := E_e0.keep K
  replace lt_r := Nat.lt_of_lt_of_le lt_r K.1
  refine X.aloadN (pc' := 39) d26_38 rfl rfl rfl ?_
  exact X.retAN rfl rfl d26_39 (by decide) (by decide) ⟨_, rfl, r, rfl, s_r, kr, V1, Or1, Er.keep K⟩
set_option maxRecDepth 65536 in
set_option maxHeartbeats 40000000 in
theorem ef_rmCo2_1 (m : MethodId) (d : Addr) : entryFrame m #[(.ref d), (.int (1 : Int32))] 2 = mkF m 0 #[.val (.ref d), .val (.int (1 : Int32))] [] := by first | (simp [entryFrame, mkF, argsToLocals, Value.category]; done) | (rfl)
set_option maxRecDepth 65536 in
set_option maxHeartbeats 40000000 in
theorem rmCo2_1 (l : Launch) (Z : State) (a0 : Array Value) (hw : ∀ d ∈ tables_1, d.before a0 Z = true) (d : Addr) (h0 : Heap) (O : Ext Z.heap h0) (mo : Addr) (M_o : Mrr Z "[Ljava/lang/Object;" mo) (e0 : Addr) (C0 : String) (wc0 : (Cond.castable C0 "java/lang/Object").before a0 Z = true) (E_e0 : Exa Z h0 e0 C0) (V_d : OA Z h0 d 10 [(.ref e0), (.null), (.null), (.null), (.null), (.null), (.null), (.null), (.null), (.null)]) :
    MN l Z (⟨"java/util/Arrays", "copyOf", "([Ljava/lang/Object;I)[Ljava/lang/Object;"⟩ : MethodName) jdk_65_method_119_code 2 (some (.array (.object "java/lang/Object"))) [] ({ frames := 2, cells := 1, slots := 1, locals := 60 } : Room) #[(.ref d), (.int (1 : Int32))] h0 [] (RV (fun w h => ∃ r, w = .ref r ∧ h0.size ≤ r ∧ OA Z h r (1 : Int32) [(.ref e0)])) := by
  refine MN.mk (a0 := a0) rfl rfl (plainFor_of_name pn8) O (fun m => ef_rmCo2_1 m d) ?_
  intro pg ev s m below meth cd T hh X
  subst hh
  refine X.aloadN (pc' := 1) d25_0 rfl rfl rfl ?_
  refine X.iloadN (pc' := 2) d25_1 rfl rfl ?_
  refine X.aloadN (pc' := 3) d25_2 rfl rfl rfl ?_
  have Ed : Exa Z s.heap d "[Ljava/lang/Object;" := by obtain ⟨kd, _, _, q⟩ := V_d; exact q
  refine X.gcls (pc' := 6) (wd148 hw) (wd149 hw) (wd151 hw) (wd150 hw) (wd152 hw) Ed M_o rfl d25_3 (leB rfl) (by first | exact leB rfl | decide +kernel) rfl ?_
  intro T X
  refine X.callV (pc' := 9) (X.sStatic (wd154 hw) (wd155 hw) (wd146 hw) (wd156 hw) (by decide) rfl pd9 [(.ref d), (.int (1 : Int32)), (.ref mo)] rfl rfl d25_6) (rmCo3_1 l Z a0 hw d mo _ X.old M_o e0 _ wc0 E_e0 V_d) (wd156 hw) (wd146 hw) (leB rfl) (leB rfl) (leB rfl) (leB rfl) sf0 all0 all0 rfl ?_
  intro T h L v X K q
  obtain ⟨r, rfl, le_r, V_r⟩ := q
  exact X.retAN rfl rfl d25_9 (by decide) (by decide) ⟨_, rfl, r, rfl, le_r, V_r⟩
set_option maxRecDepth 65536 in
set_option maxHeartbeats 40000000 in
theorem ef_rmToA_1 (m : MethodId) (a2 : Addr) : entryFrame m #[(.ref a2)] 1 = mkF m 0 #[.val (.ref a2)] [] := by first | (simp [entryFrame, mkF, argsToLocals, Value.category]; done) | (rfl)
set_option maxRecDepth 65536 in
set_option maxHeartbeats 40000000 in
theorem rmToA_1 (l : Launch) (Z : State) (a0 : Array Value) (hw : ∀ d ∈ tables_1, d.before a0 Z = true) (a2 : Addr) (h0 : Heap) (O : Ext Z.heap h0) (mo : Addr) (M_o : Mrr Z "[Ljava/lang/Object;" mo) (d : Addr) (mc : Int32) (A2 : AL Z h0 a2 (.ref d) (1 : Int32) mc) (e0 : Addr) (C0 : String) (wc0 : (Cond.castable C0 "java/lang/Object").before a0 Z = true) (E_e0 : Exa Z h0 e0 C0) (V_d : OA Z h0 d 10 [(.ref e0), (.null), (.null), (.null), (.null), (.null), (.null), (.null), (.null), (.null)]) :
    MN l Z (⟨"java/util/ArrayList", "toArray", "()[Ljava/lang/Object;"⟩ : MethodName) jdk_38_method_16_code 1 (some (.array (.object "java/lang/Object"))) [] ({ frames := 3, cells := 1, slots := 1, locals := 80 } : Room) #[(.ref a2)] h0 [] (RV (fun w h => ∃ r, w = .ref r ∧ h0.size ≤ r ∧ OA Z h r (1 : Int32) [(.ref e0)])) := by
  refine MN.mk (a0 := a0) rfl rfl (plainFor_of_name pn5) O (fun m => ef_rmToA_1 m a2) ?_
  intro pg ev s m below meth cd T hh X
  subst hh
  refine X.aloadN (pc' := 1) d24_0 rfl rfl rfl ?_
  refine X.getF (pc' := 4) (wd66 hw) Via.refl A2.2.1 d24_1 rfl ?_
  intro T X
  refine X.aloadN (pc' := 5) d24_4 rfl rfl rfl ?_
  refine X.getF (pc' := 8) (wd91 hw) Via.refl A2.2.2.1 d24_5 rfl ?_
  intro T X
  refine X.callV (pc' := 11) (X.sStatic (wd144 hw) (wd145 hw) (wd146 hw) (wd147 hw) (by decide) rfl pd10 [(.ref d), (.int (1 : Int32))] rfl rfl d24_8) (rmCo2_1 l Z a0 hw d _ X.old mo M_o e0 _ wc0 E_e0 V_d) (wd147 hw) (wd146 hw) (leB rfl) (leB rfl) (leB rfl) (leB rfl) sf0 all0 all0 rfl ?_
  intro T h L v X K q
  obtain ⟨r, rfl, le_r, V_r⟩ := q
  exact X.retAN rfl rfl d24_11 (by decide) (by decide) ⟨_, rfl, r, rfl, le_r, V_r⟩
set_option maxRecDepth 65536 in
set_option maxHeartbeats 40000000 in
theorem ef_rmALC_1 (m : MethodId) (a1 : Addr) (a2 : Addr) : entryFrame m #[(.ref a1), (.ref a2)] 3 = mkF m 0 #[.val (.ref a1), .val (.ref a2), .unset] [] := by first | (simp [entryFrame, mkF, argsToLocals, Value.category]; done) | (rfl)
set_option maxRecDepth 65536 in
set_option maxHeartbeats 40000000 in
theorem rmALC_1 (l : Launch) (Z : State) (a0 : Array Value) (hw : ∀ d ∈ tables_1, d.before a0 Z = true) (a1 : Addr) (a2 : Addr) (h0 : Heap) (O : Ext Z.heap h0) (za : Z.heap.size ≤ a1) (A1 : AL Z h0 a1 .null 0 0) (ne12 : a1 ≠ a2) (mo : Addr) (M_o : Mrr Z "[Ljava/lang/Object;" mo) (ma : Addr) (M_a : Mrr Z "java/util/ArrayList" ma) (d : Addr) (ned : d ≠ a1) (mc : Int32) (A2 : AL Z h0 a2 (.ref d) (1 : Int32) mc) (e0 : Addr) (C0 : String) (wc0 : (Cond.castable C0 "java/lang/Object").before a0 Z = true) (E_e0 : Exa Z h0 e0 C0) (V_d : OA Z h0 d 10 [(.ref e0), (.null), (.null), (.null), (.null), (.null), (.null), (.null), (.null), (.null)]) :
    MN l Z (⟨"java/util/ArrayList", "<init>", "(Ljava/util/Collection;)V"⟩ : MethodName) jdk_38_method_3_code 3 none [] ({ frames := 4, cells := 1, slots := 1, locals := 100 } : Room) #[(.ref a1), (.ref a2)] h0 [a1] (RU (fun h => ∃ r, h0.size ≤ r ∧ AL Z h a1 (.ref r) (1 : Int32) 0 ∧ OA Z h r (1 : Int32) [(.ref e0)])) := by
  refine MN.mk (a0 := a0) rfl rfl (plainFor_of_name pn5) O (fun m => ef_rmALC_1 m a1 a2) ?_
  intro pg ev s m below meth cd T hh X
  subst hh
  have lt_d := V_d.lt
  have lt_a2 := A2.lt
  refine X.aloadN (pc' := 1) d23_0 rfl rfl rfl ?_
  refine X.callU (pc' := 4) (X.sSpecial rfl (wd50 hw) (wd51 hw) (wd55 hw) (by decide) rfl pd4 [] rfl rfl d23_1) (rmABL l Z a0 hw a1 _ X.old za _ _ _ A1) (wd55 hw) (wd54 hw) (leB rfl) (leB rfl) (leB rfl) (leB rfl) (sfS safeE sf0) (allS za all0) (allS (Or.inl (List.mem_of_getElem? (i := 0) rfl)) all0) rfl ?_
  intro T h L X K q
  replace lt_d := Nat.lt_of_lt_of_le lt_d K.1
  replace lt_a2 := Nat.lt_of_lt_of_le lt_a2 K.1
  replace A2 := A2.keep K (ninS (Ne.symm ne12) nin0)
  replace V_d := V_d.keep K (ninS ned nin0)
  replace E_e0 := E_e0.keep K
  have le1 := K.1
  obtain ⟨E_a1, F_a1_elementData, F_a1_size, F_a1_modCount⟩ := q
  have lt_a1 := E_a1.lt
  refine X.aloadN (pc' := 5) d23_4 rfl rfl rfl ?_
  refine X.callV (pc' := 10) (X.sFace (y := (⟨"java/util/ArrayList", "toArray", "()[Ljava/lang/Object;"⟩ : MethodName)) (wd135 hw) (wd136 hw) (wd137 hw) rfl (wd138 hw) (wd139 hw) (wd140 hw) (wd141 hw) (wd142 hw) (by decide) rfl pd7 A2.1 [] rfl rfl d23_5) (rmToA_1 l Z a0 hw a2 _ X.old mo M_o d mc A2 e0 _ wc0 E_e0 V_d) (wd143 hw) (wd46 hw) (leB rfl) (leB rfl) (leB rfl) (leB rfl) sf0 all0 all0 rfl ?_
  intro T h L v X K q
  obtain ⟨r, rfl, le_r, V_r⟩ := q
  have ne_d_r : d ≠ r := Nat.ne_of_lt (Nat.lt_of_lt_of_le lt_d le_r)
  have ne_a2_r : a2 ≠ r := Nat.ne_of_lt (Nat.lt_of_lt_of_le lt_a2 le_r)
  have ne_a1_r : a1 ≠ r := Nat.ne_of_lt (Nat.lt_of_lt_of_le lt_a1 le_r)
  replace lt_d := Nat.lt_of_lt_of_le lt_d K.1
  replace lt_a2 := Nat.lt_of_lt_of_le lt_a2 K.1
  replace A2 := A2.keep K nin0
  replace V_d := V_d.keep K nin0
  replace E_e0 := E_e0.keep K
  replace F_a1_elementData := F_a1_elementData.keep K nin0
  replace F_a1_size := F_a1_size.keep K nin0
  replace F_a1_modCount := F_a1_modCount.keep K nin0
  replace E_a1 := E_a1.keep K
  replace lt_a1 := Nat.lt_of_lt_of_le lt_a1 K.1
  refine X.astoreN (pc' := 11) #[.val (.ref a1), .val (.ref a2), .val (.ref r)] d23_10 rfl rfl rfl ?_
  refine X.aloadN (pc' := 12) d23_11 rfl rfl rfl ?_
  refine X.aloadN (pc' := 13) d23_12 rfl rfl rfl ?_
  obtain ⟨kr, Vr, Or1, Er⟩ := V_r
  refine X.alen (pc' := 14) Vr d23_13 rfl ?_
  refine X.dupX1 (pc' := 15) d23_14 rfl rfl rfl ?_
  refine X.putF (pc' := 18) (wd91 hw) Via.refl F_a1_size E_a1 (Or.inl (wd92 hw)) (wd45 hw) .int (by decide) rfl rfl safeE za (Or.inl (List.mem_of_getElem? (i := 0) rfl)) d23_15 rfl ?_
  intro T h L X W
  replace lt_d := Nat.lt_of_lt_of_le lt_d (Keep.of_wr W).1
  replace lt_a2 := Nat.lt_of_lt_of_le lt_a2 (Keep.of_wr W).1
  replace A2 := A2.other W (Ne.symm ne12)
  replace V_d := V_d.other W ned
  replace E_e0 := E_e0.wr W
  replace F_a1_elementData := F_a1_elementData.other W (Or.inr (slot_ne (Or.inl (wd67 hw)) (Or.inl (wd92 hw)) (by decide) (t := (.array (.object "java/lang/Object"))) (t' := .int) (by decide) (by decide)))
  replace F_a1_modCount := F_a1_modCount.other W (Or.inr (slot_ne (Or.inl (wd64 hw)) (Or.inl (wd92 hw)) (by decide) (t := .int) (t' := .int) (by decide) (by decide)))
  replace E_a1 := E_a1.wr W
  replace lt_a1 := Nat.lt_of_lt_of_le lt_a1 (Keep.of_wr W).1
  replace Vr := Vr.other W (Ne.symm ne_a1_r)
  replace Er := Er.wr W
  replace F_a1_size := F_a1_size.same W
  refine X.ifN (pc' := 21) d23_18 (by decide) rfl ?_
  refine X.aloadN (pc' := 22) d23_21 rfl rfl rfl ?_
  refine X.gclsI (pc' := 27) (xi := ⟨"java/util/Collection", "getClass", "()Ljava/lang/Class;"⟩) (wd166 hw) (wd149 hw) (wd167 hw) (wd168 hw) (wd150 hw) (wd169 hw) (wd170 hw) (wd142 hw) (wd152 hw) (by decide) (by decide) rfl rfl A2.1 M_a rfl d23_22 (leB rfl) (by first | exact leB rfl | decide +kernel) rfl ?_
  intro T X
  refine X.ldcM (pc' := 29) (wd172 hw) M_a d23_27 rfl ?_
  intro T X
  refine X.acmp (pc' := 32) d23_29 rfl rfl true (by simp) (by decide) (by decide) ?_
  refine X.aloadN (pc' := 33) d23_32 rfl rfl rfl ?_
  refine X.aloadN (pc' := 34) d23_33 rfl rfl rfl ?_
  refine X.putF (pc' := 37) (wd66 hw) Via.refl F_a1_elementData E_a1 (Or.inl (wd67 hw)) (wd45 hw) (.array (.object "java/lang/Object")) (by decide) rfl rfl safeE za (Or.inl (List.mem_of_getElem? (i := 0) rfl)) d23_34 rfl ?_
  intro T h L X W
  replace lt_d := Nat.lt_of_lt_of_le lt_d (Keep.of_wr W).1
  replace lt_a2 := Nat.lt_of_lt_of_le lt_a2 (Keep.of_wr W).1
  replace A2 := A2.other W (Ne.symm ne12)
  replace V_d := V_d.other W ned
  replace E_e0 := E_e0.wr W
  replace F_a1_size := F_a1_size.other W (Or.inr (slot_ne (Or.inl (wd92 hw)) (Or.inl (wd67 hw)) (by decide) (t := .int) (t' := (.array (.object "java/lang/Object"))) (by decide) (by decide)))
  replace F_a1_modCount := F_a1_modCount.other W (Or.inr (slot_ne (Or.inl (wd64 hw)) (Or.inl (wd67 hw)) (by decide) (t := .int) (t' := (.array (.object "java/lang/Object"))) (by decide) (by decide)))
  replace E_a1 := E_a1.wr W
  replace lt_a1 := Nat.lt_of_lt_of_le lt_a1 (Keep.of_wr W).1
  replace Vr := Vr.other W (Ne.symm ne_a1_r)
  replace Er := Er.wr W
  replace F_a1_elementData := F_a1_elementData.same W
  refine X.goto (pc' := 64) d23_37 (by decide) (by decide) ?_
  exact X.retUN d23_64 (by decide) (by decide) ⟨rfl, r, Nat.le_trans le1 le_r, ⟨E_a1, F_a1_elementData, F_a1_size, F_a1_modCount⟩, kr, Vr, Or1, Er⟩
set_option maxRecDepth 65536 in
set_option maxHeartbeats 40000000 in
theorem ef_rmMin2 (m : MethodId)  : entryFrame m #[(.int (10 : Int32)), (.int (2 : Int32))] 2 = mkF m 0 #[.val (.int (10 : Int32)), .val (.int (2 : Int32))] [] := by first | (simp [entryFrame, mkF, argsToLocals, Value.category]; done) | (rfl)
set_option maxRecDepth 65536 in
set_option maxHeartbeats 40000000 in
theorem rmMin2 (l : Launch) (Z : State) (a0 : Array Value) (hw : ∀ d ∈ tables_1, d.before a0 Z = true)  (h0 : Heap) (O : Ext Z.heap h0)  :
    MN l Z (⟨"java/lang/Math", "min", "(II)I"⟩ : MethodName) jdk_29_method_69_code 2 (some .int) [] ({ frames := 0, cells := 0, slots := 0, locals := 0 } : Room) #[(.int (10 : Int32)), (.int (2 : Int32))] h0 [] (RP h0 (fun w => w = .int (2 : Int32))) := by
  refine MN.mk (a0 := a0) rfl rfl pf27 O (fun m => ef_rmMin2 m ) ?_
  intro pg ev s m below meth cd T hh X
  subst hh
  refine X.iloadN (pc' := 1) d27_0 rfl rfl ?_
  refine X.iloadN (pc' := 2) d27_1 rfl rfl ?_
  refine X.icY (pc' := 9) d27_2 (by decide) (by decide) (by decide) ?_
  refine X.iloadN (pc' := 10) d27_9 rfl rfl ?_
  exact X.retIN (by simp) rfl d27_10 (by decide) (by decide) ⟨_, rfl, rfl, rfl⟩
set_option maxRecDepth 65536 in
set_option maxHeartbeats 40000000 in
theorem ef_rmCo3_2 (m : MethodId) (d : Addr) (mo : Addr) : entryFrame m #[(.ref d), (.int (2 : Int32)), (.ref mo)] 4 = mkF m 0 #[.val (.ref d), .val (.int (2 : Int32)), .val (.ref mo), .unset] [] := by first | (simp [entryFrame, mkF, argsToLocals, Value.category]; done) | (rfl)
set_option maxRecDepth 65536 in
set_option maxHeartbeats 40000000 in
theorem rmCo3_2 (l : Launch) (Z : State) (a0 : Array Value) (hw : ∀ d ∈ tables_1, d.before a0 Z = true) (d : Addr) (mo : Addr) (h0 : Heap) (O : Ext Z.heap h0) (M_o : Mrr Z "[Ljava/lang/Object;" mo) (e0 : Addr) (C0 : String) (wc0 : (Cond.castable C0 "java/lang/Object").before a0 Z = true) (E_e0 : Exa Z h0 e0 C0) (e1 : Addr) (C1 : String) (wc1 : (Cond.castable C1 "java/lang/Object").before a0 Z = true) (E_e1 : Exa Z h0 e1 C1) (V_d : OA Z h0 d 10 [(.ref e0), (.ref e1), (.null), (.null), (.null), (.null), (.null), (.null), (.null), (.null)]) :
    MN l Z (⟨"java/util/Arrays", "copyOf", "([Ljava/lang/Object;ILjava/lang/Class;)[Ljava/lang/Object;"⟩ : MethodName) jdk_65_method_120_code 4 (some (.array (.object "java/lang/Object"))) [] ({ frames := 1, cells := 1, slots := 2, locals := 40 } : Room) #[(.ref d), (.int (2 : Int32)), (.ref mo)] h0 [] (RV (fun w h => ∃ r, w = .ref r ∧ h0.size ≤ r ∧ OA Z h r (2 : Int32) [(.ref e0), (.ref e1)])) := by
  refine MN.mk (a0 := a0) rfl rfl (plainFor_of_name pn8) O (fun m => ef_rmCo3_2 m d mo) ?_
  intro pg ev s m below meth cd T hh X
  subst hh
  have lt_d := V_d.lt
  refine X.aloadN (pc' := 1) d26_0 rfl rfl rfl ?_
  refine X.ldcM (pc' := 3) (wd157 hw) M_o d26_1 rfl ?_
  intro T X
  refine X.acmp (pc' := 6) d26_3 rfl rfl true (by simp) (by decide) (by decide) ?_
  refine X.iloadN (pc' := 7) d26_6 rfl rfl ?_
  refine X.newR (pc' := 10) (ad := "[Ljava/lang/Object;") (wd158 hw) (wd113 hw) (by decide) d26_7 (by decide) 2 (by decide) (by decide) (by decide) (by decide) rfl ?_
  intro T h r ka_r g_r Ex lt_r V_r Ea_r Ov_r X1
  have z_r : Z.heap.size ≤ r := by rw [g_r]; exact X.old.1
  have s_r : s.heap.size ≤ r := by rw [g_r]; exact X.kp.1
  have ne_d_r : d ≠ r := Nat.ne_of_lt (by rw [g_r]; exact lt_d)
  replace V_d := V_d.ext Ex
  replace lt_d := Nat.lt_of_lt_of_le lt_d Ex.1
  replace E_e0 := E_e0.ext Ex
  replace E_e1 := E_e1.ext Ex
  replace X := X1
  have V_r : OA Z h r (2 : Int32) [(.null), (.null)] := ⟨ka_r, (Arv.pad V_r (pad_rep [] .null 2)), Ov_r, Ea_r⟩
  refine X.goto (pc' := 24) d26_10 (by decide) (by decide) ?_
  refine X.astoreN (pc' := 25) #[.val (.ref d), .val (.int (2 : Int32)), .val (.ref mo), .val (.ref r)] d26_24 rfl rfl rfl ?_
  refine X.aloadN (pc' := 26) d26_25 rfl rfl rfl ?_
  refine X.iconst (pc' := 27) (0 : Int32) d26_26 rfl rfl ?_
  refine X.aloadN (pc' := 28) d26_27 rfl rfl rfl ?_
  refine X.iconst (pc' := 29) (0 : Int32) d26_28 rfl rfl ?_
  refine X.aloadN (pc' := 30) d26_29 rfl rfl rfl ?_
  obtain ⟨kd, Vd, Od, Ed⟩ := V_d
  refine X.alen (pc' := 31) Vd d26_30 rfl ?_
  refine X.iloadN (pc' := 32) d26_31 rfl rfl ?_
  refine X.callP (pc' := 35) (X.sStatic (wd159 hw) (wd160 hw) (wd110 hw) (wd161 hw) (by decide) rfl pd5 [(.int (10 : Int32)), (.int (2 : Int32))] rfl rfl d26_32) (rmMin2 l Z a0 hw _ X.old) (wd161 hw) (wd110 hw) (leB rfl) (leB rfl) (leB rfl) (leB rfl) rfl ?_
  intro T L v X q
  subst q
  obtain ⟨kr, Vr, Or1, Er⟩ := V_r
  have Vr' := Vr
  obtain ⟨cr, Ar, qr, -⟩ := Vr'
  refine X.acopy (pc' := 38) (us := [(.ref e0), (.ref e1)]) (wd162 hw) (wd165 hw) (wd163 hw) (wd164 hw) Vd Vr (Or.inr ⟨rfl, rfl, ⟨Sto.ofV Ar qr Or1 (Ins.of_exa E_e0 wc0), ⟨Sto.ofV Ar qr Or1 (Ins.of_exa E_e1 wc1), trivial⟩⟩⟩) (by decide) (by decide) (by decide) (by decide) (by decide) rfl (by decide) safeE z_r (Or.inr s_r) rfl d26_35 (leB rfl) (by first | exact leB rfl | decide +kernel) rfl ?_
  intro T h L X K V1
  replace lt_d := Nat.lt_of_lt_of_le lt_d K.1
  replace E_e0 := E_e0.keep K
  replace E_e1 := E_e1.keep K
  replace lt_r := Nat.lt_of_lt_of_le lt_r K.1
  refine X.aloadN (pc' := 39) d26_38 rfl rfl rfl ?_
  exact X.retAN rfl rfl d26_39 (by decide) (by decide) ⟨_, rfl, r, rfl, s_r, kr, V1, Or1, Er.keep K⟩
set_option maxRecDepth 65536 in
set_option maxHeartbeats 40000000 in
theorem ef_rmCo2_2 (m : MethodId) (d : Addr) : entryFrame m #[(.ref d), (.int (2 : Int32))] 2 = mkF m 0 #[.val (.ref d), .val (.int (2 : Int32))] [] := by first | (simp [entryFrame, mkF, argsToLocals, Value.category]; done) | (rfl)
set_option maxRecDepth 65536 in
set_option maxHeartbeats 40000000 in
theorem rmCo2_2 (l : Launch) (Z : State) (a0 : Array Value) (hw : ∀ d ∈ tables_1, d.before a0 Z = true) (d : Addr) (h0 : Heap) (O : Ext Z.heap h0) (mo : Addr) (M_o : Mrr Z "[Ljava/lang/Object;" mo) (e0 : Addr) (C0 : String) (wc0 : (Cond.castable C0 "java/lang/Object").before a0 Z = true) (E_e0 : Exa Z h0 e0 C0) (e1 : Addr) (C1 : String) (wc1 : (Cond.castable C1 "java/lang/Object").before a0 Z = true) (E_e1 : Exa Z h0 e1 C1) (V_d : OA Z h0 d 10 [(.ref e0), (.ref e1), (.null), (.null), (.null), (.null), (.null), (.null), (.null), (.null)]) :
    MN l Z (⟨"java/util/Arrays", "copyOf", "([Ljava/lang/Object;I)[Ljava/lang/Object;"⟩ : MethodName) jdk_65_method_119_code 2 (some (.array (.object "java/lang/Object"))) [] ({ frames := 2, cells := 1, slots := 2, locals := 60 } : Room) #[(.ref d), (.int (2 : Int32))] h0 [] (RV (fun w h => ∃ r, w = .ref r ∧ h0.size ≤ r ∧ OA Z h r (2 : Int32) [(.ref e0), (.ref e1)])) := by
  refine MN.mk (a0 := a0) rfl rfl (plainFor_of_name pn8) O (fun m => ef_rmCo2_2 m d) ?_
  intro pg ev s m below meth cd T hh X
  subst hh
  refine X.aloadN (pc' := 1) d25_0 rfl rfl rfl ?_
  refine X.iloadN (pc' := 2) d25_1 rfl rfl ?_
  refine X.aloadN (pc' := 3) d25_2 rfl rfl rfl ?_
  have Ed : Exa Z s.heap d "[Ljava/lang/Object;" := by obtain ⟨kd, _, _, q⟩ := V_d; exact q
  refine X.gcls (pc' := 6) (wd148 hw) (wd149 hw) (wd151 hw) (wd150 hw) (wd152 hw) Ed M_o rfl d25_3 (leB rfl) (by first | exact leB rfl | decide +kernel) rfl ?_
  intro T X
  refine X.callV (pc' := 9) (X.sStatic (wd154 hw) (wd155 hw) (wd146 hw) (wd156 hw) (by decide) rfl pd9 [(.ref d), (.int (2 : Int32)), (.ref mo)] rfl rfl d25_6) (rmCo3_2 l Z a0 hw d mo _ X.old M_o e0 _ wc0 E_e0 e1 _ wc1 E_e1 V_d) (wd156 hw) (wd146 hw) (leB rfl) (leB rfl) (leB rfl) (leB rfl) sf0 all0 all0 rfl ?_
  intro T h L v X K q
  obtain ⟨r, rfl, le_r, V_r⟩ := q
  exact X.retAN rfl rfl d25_9 (by decide) (by decide) ⟨_, rfl, r, rfl, le_r, V_r⟩
set_option maxRecDepth 65536 in
set_option maxHeartbeats 40000000 in
theorem ef_rmToA_2 (m : MethodId) (a2 : Addr) : entryFrame m #[(.ref a2)] 1 = mkF m 0 #[.val (.ref a2)] [] := by first | (simp [entryFrame, mkF, argsToLocals, Value.category]; done) | (rfl)
set_option maxRecDepth 65536 in
set_option maxHeartbeats 40000000 in
theorem rmToA_2 (l : Launch) (Z : State) (a0 : Array Value) (hw : ∀ d ∈ tables_1, d.before a0 Z = true) (a2 : Addr) (h0 : Heap) (O : Ext Z.heap h0) (mo : Addr) (M_o : Mrr Z "[Ljava/lang/Object;" mo) (d : Addr) (mc : Int32) (A2 : AL Z h0 a2 (.ref d) (2 : Int32) mc) (e0 : Addr) (C0 : String) (wc0 : (Cond.castable C0 "java/lang/Object").before a0 Z = true) (E_e0 : Exa Z h0 e0 C0) (e1 : Addr) (C1 : String) (wc1 : (Cond.castable C1 "java/lang/Object").before a0 Z = true) (E_e1 : Exa Z h0 e1 C1) (V_d : OA Z h0 d 10 [(.ref e0), (.ref e1), (.null), (.null), (.null), (.null), (.null), (.null), (.null), (.null)]) :
    MN l Z (⟨"java/util/ArrayList", "toArray", "()[Ljava/lang/Object;"⟩ : MethodName) jdk_38_method_16_code 1 (some (.array (.object "java/lang/Object"))) [] ({ frames := 3, cells := 1, slots := 2, locals := 80 } : Room) #[(.ref a2)] h0 [] (RV (fun w h => ∃ r, w = .ref r ∧ h0.size ≤ r ∧ OA Z h r (2 : Int32) [(.ref e0), (.ref e1)])) := by
  refine MN.mk (a0 := a0) rfl rfl (plainFor_of_name pn5) O (fun m => ef_rmToA_2 m a2) ?_
  intro pg ev s m below meth cd T hh X
  subst hh
  refine X.aloadN (pc' := 1) d24_0 rfl rfl rfl ?_
  refine X.getF (pc' := 4) (wd66 hw) Via.refl A2.2.1 d24_1 rfl ?_
  intro T X
  refine X.aloadN (pc' := 5) d24_4 rfl rfl rfl ?_
  refine X.getF (pc' := 8) (wd91 hw) Via.refl A2.2.2.1 d24_5 rfl ?_
  intro T X
  refine X.callV (pc' := 11) (X.sStatic (wd144 hw) (wd145 hw) (wd146 hw) (wd147 hw) (by decide) rfl pd10 [(.ref d), (.int (2 : Int32))] rfl rfl d24_8) (rmCo2_2 l Z a0 hw d _ X.old mo M_o e0 _ wc0 E_e0 e1 _ wc1 E_e1 V_d) (wd147 hw) (wd146 hw) (leB rfl) (leB rfl) (leB rfl) (leB rfl) sf0 all0 all0 rfl ?_
  intro T h L v X K q
  obtain ⟨r, rfl, le_r, V_r⟩ := q
  exact X.retAN rfl rfl d24_11 (by decide) (by decide) ⟨_, rfl, r, rfl, le_r, V_r⟩
set_option maxRecDepth 65536 in
set_option maxHeartbeats 40000000 in
theorem ef_rmALC_2 (m : MethodId) (a1 : Addr) (a2 : Addr) : entryFrame m #[(.ref a1), (.ref a2)] 3 = mkF m 0 #[.val (.ref a1), .val (.ref a2), .unset] [] := by first | (simp [entryFrame, mkF, argsToLocals, Value.category]; done) | (rfl)
set_option maxRecDepth 65536 in
set_option maxHeartbeats 40000000 in
theorem rmALC_2 (l : Launch) (Z : State) (a0 : Array Value) (hw : ∀ d ∈ tables_1, d.before a0 Z = true) (a1 : Addr) (a2 : Addr) (h0 : Heap) (O : Ext Z.heap h0) (za : Z.heap.size ≤ a1) (A1 : AL Z h0 a1 .null 0 0) (ne12 : a1 ≠ a2) (mo : Addr) (M_o : Mrr Z "[Ljava/lang/Object;" mo) (ma : Addr) (M_a : Mrr Z "java/util/ArrayList" ma) (d : Addr) (ned : d ≠ a1) (mc : Int32) (A2 : AL Z h0 a2 (.ref d) (2 : Int32) mc) (e0 : Addr) (C0 : String) (wc0 : (Cond.castable C0 "java/lang/Object").before a0 Z = true) (E_e0 : Exa Z h0 e0 C0) (e1 : Addr) (C1 : String) (wc1 : (Cond.castable C1 "java/lang/Object").before a0 Z = true) (E_e1 : Exa Z h0 e1 C1) (V_d : OA Z h0 d 10 [(.ref e0), (.ref e1), (.null), (.null), (.null), (.null), (.null), (.null), (.null), (.null)]) :
    MN l Z (⟨"java/util/ArrayList", "<init>", "(Ljava/util/Collection;)V"⟩ : MethodName) jdk_38_method_3_code 3 none [] ({ frames := 4, cells := 1, slots := 2, locals := 100 } : Room) #[(.ref a1), (.ref a2)] h0 [a1] (RU (fun h => ∃ r, h0.size ≤ r ∧ AL Z h a1 (.ref r) (2 : Int32) 0 ∧ OA Z h r (2 : Int32) [(.ref e0), (.ref e1)])) := by
  refine MN.mk (a0 := a0) rfl rfl (plainFor_of_name pn5) O (fun m => ef_rmALC_2 m a1 a2) ?_
  intro pg ev s m below meth cd T hh X
  subst hh
  have lt_d := V_d.lt
  have lt_a2 := A2.lt
  refine X.aloadN (pc' := 1) d23_0 rfl rfl rfl ?_
  refine X.callU (pc' := 4) (X.sSpecial rfl (wd50 hw) (wd51 hw) (wd55 hw) (by decide) rfl pd4 [] rfl rfl d23_1) (rmABL l Z a0 hw a1 _ X.old za _ _ _ A1) (wd55 hw) (wd54 hw) (leB rfl) (leB rfl) (leB rfl) (leB rfl) (sfS safeE sf0) (allS za all0) (allS (Or.inl (List.mem_of_getElem? (i := 0) rfl)) all0) rfl ?_
  intro T h L X K q
  replace lt_d := Nat.lt_of_lt_of_le lt_d K.1
  replace lt_a2 := Nat.lt_of_lt_of_le lt_a2 K.1
  replace A2 := A2.keep K (ninS (Ne.symm ne12) nin0)
  replace V_d := V_d.keep K (ninS ned nin0)
  replace E_e0 := E_e0.keep K
  replace E_e1 := E_e1.keep K
  have le1 := K.1
  obtain ⟨E_a1, F_a1_elementData, F_a1_size, F_a1_modCount⟩ := q
  have lt_a1 := E_a1.lt
  refine X.aloadN (pc' := 5) d23_4 rfl rfl rfl ?_
  refine X.callV (pc' := 10) (X.sFace (y := (⟨"java/util/ArrayList", "toArray", "()[Ljava/lang/Object;"⟩ : MethodName)) (wd135 hw) (wd136 hw) (wd137 hw) rfl (wd138 hw) (wd139 hw) (wd140 hw) (wd141 hw) (wd142 hw) (by decide) rfl pd7 A2.1 [] rfl rfl d23_5) (rmToA_2 l Z a0 hw a2 _ X.old mo M_o d mc A2 e0 _ wc0 E_e0 e1 _ wc1 E_e1 V_d) (wd143 hw) (wd46 hw) (leB rfl) (leB rfl) (leB rfl) (leB rfl) sf0 all0 all0 rfl ?_
  intro T h L v X K q
  obtain ⟨r, rfl, le_r, V_r⟩ := q
  have ne_d_r : d ≠ r := Nat.ne_of_lt (Nat.lt_of_lt_of_le lt_d le_r)
  have ne_a2_r : a2 ≠ r := Nat.ne_of_lt (Nat.lt_of_lt_of_le lt_a2 le_r)
  have ne_a1_r : a1 ≠ r := Nat.ne_of_lt (Nat.lt_of_lt_of_le lt_a1 le_r)
  replace lt_d := Nat.lt_of_lt_of_le lt_d K.1
  replace lt_a2 := Nat.lt_of_lt_of_le lt_a2 K.1
  replace A2 := A2.keep K nin0
  replace V_d := V_d.keep K nin0
  replace E_e0 := E_e0.keep K
  replace E_e1 := E_e1.keep K
  replace F_a1_elementData := F_a1_elementData.keep K nin0
  replace F_a1_size := F_a1_size.keep K nin0
  replace F_a1_modCount := F_a1_modCount.keep K nin0
  replace E_a1 := E_a1.keep K
  replace lt_a1 := Nat.lt_of_lt_of_le lt_a1 K.1
  refine X.astoreN (pc' := 11) #[.val (.ref a1), .val (.ref a2), .val (.ref r)] d23_10 rfl rfl rfl ?_
  refine X.aloadN (pc' := 12) d23_11 rfl rfl rfl ?_
  refine X.aloadN (pc' := 13) d23_12 rfl rfl rfl ?_
  obtain ⟨kr, Vr, Or1, Er⟩ := V_r
  refine X.alen (pc' := 14) Vr d23_13 rfl ?_
  refine X.dupX1 (pc' := 15) d23_14 rfl rfl rfl ?_
  refine X.putF (pc' := 18) (wd91 hw) Via.refl F_a1_size E_a1 (Or.inl (wd92 hw)) (wd45 hw) .int (by decide) rfl rfl safeE za (Or.inl (List.mem_of_getElem? (i := 0) rfl)) d23_15 rfl ?_
  intro T h L X W
  replace lt_d := Nat.lt_of_lt_of_le lt_d (Keep.of_wr W).1
  replace lt_a2 := Nat.lt_of_lt_of_le lt_a2 (Keep.of_wr W).1
  replace A2 := A2.other W (Ne.symm ne12)
  replace V_d := V_d.other W ned
  replace E_e0 := E_e0.wr W
  replace E_e1 := E_e1.wr W
  replace F_a1_elementData := F_a1_elementData.other W (Or.inr (slot_ne (Or.inl (wd67 hw)) (Or.inl (wd92 hw)) (by decide) (t := (.array (.object "java/lang/Object"))) (t' := .int) (by decide) (by decide)))
  replace F_a1_modCount := F_a1_modCount.other W (Or.inr (slot_ne (Or.inl (wd64 hw)) (Or.inl (wd92 hw)) (by decide) (t := .int) (t' := .int) (by decide) (by decide)))
  replace E_a1 := E_a1.wr W
  replace lt_a1 := Nat.lt_of_lt_of_le lt_a1 (Keep.of_wr W).1
  replace Vr := Vr.other W (Ne.symm ne_a1_r)
  replace Er := Er.wr W
  replace F_a1_size := F_a1_size.same W
  refine X.ifN (pc' := 21) d23_18 (by decide) rfl ?_
  refine X.aloadN (pc' := 22) d23_21 rfl rfl rfl ?_
  refine X.gclsI (pc' := 27) (xi := ⟨"java/util/Collection", "getClass", "()Ljava/lang/Class;"⟩) (wd166 hw) (wd149 hw) (wd167 hw) (wd168 hw) (wd150 hw) (wd169 hw) (wd170 hw) (wd142 hw) (wd152 hw) (by decide) (by decide) rfl rfl A2.1 M_a rfl d23_22 (leB rfl) (by first | exact leB rfl | decide +kernel) rfl ?_
  intro T X
  refine X.ldcM (pc' := 29) (wd172 hw) M_a d23_27 rfl ?_
  intro T X
  refine X.acmp (pc' := 32) d23_29 rfl rfl true (by simp) (by decide) (by decide) ?_
  refine X.aloadN (pc' := 33) d23_32 rfl rfl rfl ?_
  refine X.aloadN (pc' := 34) d23_33 rfl rfl rfl ?_
  refine X.putF (pc' := 37) (wd66 hw) Via.refl F_a1_elementData E_a1 (Or.inl (wd67 hw)) (wd45 hw) (.array (.object "java/lang/Object")) (by decide) rfl rfl safeE za (Or.inl (List.mem_of_getElem? (i := 0) rfl)) d23_34 rfl ?_
  intro T h L X W
  replace lt_d := Nat.lt_of_lt_of_le lt_d (Keep.of_wr W).1
  replace lt_a2 := Nat.lt_of_lt_of_le lt_a2 (Keep.of_wr W).1
  replace A2 := A2.other W (Ne.symm ne12)
  replace V_d := V_d.other W ned
  replace E_e0 := E_e0.wr W
  replace E_e1 := E_e1.wr W
  replace F_a1_size := F_a1_size.other W (Or.inr (slot_ne (Or.inl (wd92 hw)) (Or.inl (wd67 hw)) (by decide) (t := .int) (t' := (.array (.object "java/lang/Object"))) (by decide) (by decide)))
  replace F_a1_modCount := F_a1_modCount.other W (Or.inr (slot_ne (Or.inl (wd64 hw)) (Or.inl (wd67 hw)) (by decide) (t := .int) (t' := (.array (.object "java/lang/Object"))) (by decide) (by decide)))
  replace E_a1 := E_a1.wr W
  replace lt_a1 := Nat.lt_of_lt_of_le lt_a1 (Keep.of_wr W).1
  replace Vr := Vr.other W (Ne.symm ne_a1_r)
  replace Er := Er.wr W
  replace F_a1_elementData := F_a1_elementData.same W
  refine X.goto (pc' := 64) d23_37 (by decide) (by decide) ?_
  exact X.retUN d23_64 (by decide) (by decide) ⟨rfl, r, Nat.le_trans le1 le_r, ⟨E_a1, F_a1_elementData, F_a1_size, F_a1_modCount⟩, kr, Vr, Or1, Er⟩
set_option maxRecDepth 65536 in
set_option maxHeartbeats 40000000 in
theorem ef_rmUC (m : MethodId) (a1 : Addr) (a2 : Addr) : entryFrame m #[(.ref a1), (.ref a2)] 2 = mkF m 0 #[.val (.ref a1), .val (.ref a2)] [] := by first | (simp [entryFrame, mkF, argsToLocals, Value.category]; done) | (rfl)
set_option maxRecDepth 65536 in
set_option maxHeartbeats 40000000 in
theorem rmUC (l : Launch) (Z : State) (a0 : Array Value) (hw : ∀ d ∈ tables_1, d.before a0 Z = true) (a1 : Addr) (a2 : Addr) (h0 : Heap) (O : Ext Z.heap h0) (za : Z.heap.size ≤ a1) (A1 : UL Z h0 a1 .null .null) :
    MN l Z (⟨"java/util/Collections$UnmodifiableCollection", "<init>", "(Ljava/util/Collection;)V"⟩ : MethodName) jdk_119_method_1_code 2 none [] ({ frames := 1, cells := 0, slots := 0, locals := 20 } : Room) #[(.ref a1), (.ref a2)] h0 [a1] (RU (fun h => UL Z h a1 (.ref a2) .null)) := by
  refine MN.mk (a0 := a0) rfl rfl (plainFor_of_name pn9) O (fun m => ef_rmUC m a1 a2) ?_
  intro pg ev s m below meth cd T hh X
  subst hh
  obtain ⟨E_a1, F_a1_c, F_a1_list⟩ := A1
  refine X.aloadN (pc' := 1) d31_0 rfl rfl rfl ?_
  refine X.initO (pc' := 4) (wd204 hw) (wd20 hw) (wd21 hw) rfl d31_1 (leB rfl) (leB rfl) rfl ?_
  intro T X
  refine X.aloadN (pc' := 5) d31_4 rfl rfl rfl ?_
  refine X.nonY (pc' := 16) d31_5 (by decide) (by decide) ?_
  refine X.aloadN (pc' := 17) d31_16 rfl rfl rfl ?_
  refine X.aloadN (pc' := 18) d31_17 rfl rfl rfl ?_
  refine X.putF (pc' := 21) (wd205 hw) Via.refl F_a1_c E_a1 (Or.inr ⟨(wd206 hw), rfl, rfl⟩) (wd187 hw) (.object "java/util/Collection") (by decide) rfl rfl safeE za (Or.inl (List.mem_of_getElem? (i := 0) rfl)) d31_18 rfl ?_
  intro T h L X W
  replace E_a1 := E_a1.wr W
  replace F_a1_list := F_a1_list.other W (Or.inr (slot_ne (Or.inr (wd208 hw)) (Or.inr (wd206 hw)) (by decide) (t := (.object "java/util/List")) (t' := (.object "java/util/Collection")) (by decide) (by decide)))
  replace F_a1_c := F_a1_c.same W
  exact X.retUN d31_21 (by decide) (by decide) ⟨rfl, ⟨E_a1, F_a1_c, F_a1_list⟩⟩
set_option maxRecDepth 65536 in
set_option maxHeartbeats 40000000 in
theorem ef_rmUL (m : MethodId) (a1 : Addr) (a2 : Addr) : entryFrame m #[(.ref a1), (.ref a2)] 2 = mkF m 0 #[.val (.ref a1), .val (.ref a2)] [] := by first | (simp [entryFrame, mkF, argsToLocals, Value.category]; done) | (rfl)
set_option maxRecDepth 65536 in
set_option maxHeartbeats 40000000 in
theorem rmUL (l : Launch) (Z : State) (a0 : Array Value) (hw : ∀ d ∈ tables_1, d.before a0 Z = true) (a1 : Addr) (a2 : Addr) (h0 : Heap) (O : Ext Z.heap h0) (za : Z.heap.size ≤ a1) (A1 : UL Z h0 a1 .null .null) :
    MN l Z (⟨"java/util/Collections$UnmodifiableList", "<init>", "(Ljava/util/List;)V"⟩ : MethodName) jdk_120_method_1_code 2 none [] ({ frames := 2, cells := 0, slots := 0, locals := 40 } : Room) #[(.ref a1), (.ref a2)] h0 [a1] (RU (fun h => UL Z h a1 (.ref a2) (.ref a2))) := by
  refine MN.mk (a0 := a0) rfl rfl (plainFor_of_name pn10) O (fun m => ef_rmUL m a1 a2) ?_
  intro pg ev s m below meth cd T hh X
  subst hh
  refine X.aloadN (pc' := 1) d30_0 rfl rfl rfl ?_
  refine X.aloadN (pc' := 2) d30_1 rfl rfl rfl ?_
  refine X.callU (pc' := 5) (X.sSpecial rfl (wd198 hw) (wd199 hw) (wd203 hw) (by decide) rfl pd11 [(.ref a2)] rfl rfl d30_2) (rmUC l Z a0 hw a1 a2 _ X.old za A1) (wd203 hw) (wd202 hw) (leB rfl) (leB rfl) (leB rfl) (leB rfl) (sfS safeE sf0) (allS za all0) (allS (Or.inl (List.mem_of_getElem? (i := 0) rfl)) all0) rfl ?_
  intro T h L X K q
  obtain ⟨E_a1, F_a1_c, F_a1_list⟩ := q
  refine X.aloadN (pc' := 6) d30_5 rfl rfl rfl ?_
  refine X.aloadN (pc' := 7) d30_6 rfl rfl rfl ?_
  refine X.putF (pc' := 10) (wd207 hw) Via.refl F_a1_list E_a1 (Or.inr ⟨(wd208 hw), rfl, rfl⟩) (wd187 hw) (.object "java/util/List") (by decide) rfl rfl safeE za (Or.inl (List.mem_of_getElem? (i := 0) rfl)) d30_7 rfl ?_
  intro T h L X W
  replace E_a1 := E_a1.wr W
  replace F_a1_c := F_a1_c.other W (Or.inr (slot_ne (Or.inr (wd206 hw)) (Or.inr (wd208 hw)) (by decide) (t := (.object "java/util/Collection")) (t' := (.object "java/util/List")) (by decide) (by decide)))
  replace F_a1_list := F_a1_list.same W
  exact X.retUN d30_10 (by decide) (by decide) ⟨rfl, ⟨E_a1, F_a1_c, F_a1_list⟩⟩
set_option maxRecDepth 65536 in
set_option maxHeartbeats 40000000 in
theorem ef_rmUR (m : MethodId) (a1 : Addr) (a2 : Addr) : entryFrame m #[(.ref a1), (.ref a2)] 2 = mkF m 0 #[.val (.ref a1), .val (.ref a2)] [] := by first | (simp [entryFrame, mkF, argsToLocals, Value.category]; done) | (rfl)
set_option maxRecDepth 65536 in
set_option maxHeartbeats 40000000 in
theorem rmUR (l : Launch) (Z : State) (a0 : Array Value) (hw : ∀ d ∈ tables_1, d.before a0 Z = true) (a1 : Addr) (a2 : Addr) (h0 : Heap) (O : Ext Z.heap h0) (za : Z.heap.size ≤ a1) (A1 : UL Z h0 a1 .null .null) :
    MN l Z (⟨"java/util/Collections$UnmodifiableRandomAccessList", "<init>", "(Ljava/util/List;)V"⟩ : MethodName) jdk_121_method_1_code 2 none [] ({ frames := 3, cells := 0, slots := 0, locals := 60 } : Room) #[(.ref a1), (.ref a2)] h0 [a1] (RU (fun h => UL Z h a1 (.ref a2) (.ref a2))) := by
  refine MN.mk (a0 := a0) rfl rfl (plainFor_of_name pn11) O (fun m => ef_rmUR m a1 a2) ?_
  intro pg ev s m below meth cd T hh X
  subst hh
  refine X.aloadN (pc' := 1) d29_0 rfl rfl rfl ?_
  refine X.aloadN (pc' := 2) d29_1 rfl rfl rfl ?_
  refine X.callU (pc' := 5) (X.sSpecial rfl (wd192 hw) (wd193 hw) (wd197 hw) (by decide) rfl pd12 [(.ref a2)] rfl rfl d29_2) (rmUL l Z a0 hw a1 a2 _ X.old za A1) (wd197 hw) (wd196 hw) (leB rfl) (leB rfl) (leB rfl) (leB rfl) (sfS safeE sf0) (allS za all0) (allS (Or.inl (List.mem_of_getElem? (i := 0) rfl)) all0) rfl ?_
  intro T h L X K q
  exact X.retUN d29_5 (by decide) (by decide) ⟨rfl, q⟩
set_option maxRecDepth 65536 in
set_option maxHeartbeats 40000000 in
theorem ef_rmUnm (m : MethodId) (a1 : Addr) : entryFrame m #[(.ref a1)] 1 = mkF m 0 #[.val (.ref a1)] [] := by first | (simp [entryFrame, mkF, argsToLocals, Value.category]; done) | (rfl)
set_option maxRecDepth 65536 in
set_option maxHeartbeats 40000000 in
theorem rmUnm (l : Launch) (Z : State) (a0 : Array Value) (hw : ∀ d ∈ tables_1, d.before a0 Z = true) (a1 : Addr) (h0 : Heap) (O : Ext Z.heap h0) (ma : Addr) (M_a : Mrr Z "java/util/ArrayList" ma) (mu : Addr) (M_u : Mrr Z "java/util/Collections$UnmodifiableList" mu) (mr : Addr) (M_r : Mrr Z "java/util/Collections$UnmodifiableRandomAccessList" mr) (A1 : Exa Z h0 a1 "java/util/ArrayList") :
    MN l Z (⟨"java/util/Collections", "unmodifiableList", "(Ljava/util/List;)Ljava/util/List;"⟩ : MethodName) jdk_79_method_35_code 1 (some (.object "java/util/List")) [] ({ frames := 4, cells := 1, slots := 8, locals := 80 } : Room) #[(.ref a1)] h0 [] (RV (fun w h => ∃ u, w = .ref u ∧ (u = a1 ∨ (h0.size ≤ u ∧ UL Z h u (.ref a1) (.ref a1))))) := by
  refine MN.mk (a0 := a0) rfl rfl (plainFor_of_name pn12) O (fun m => ef_rmUnm m a1) ?_
  intro pg ev s m below meth cd T hh X
  subst hh
  have E_a1 := A1
  refine X.aloadN (pc' := 1) d28_0 rfl rfl rfl ?_
  refine X.gclsI (pc' := 6) (xi := ⟨"java/util/List", "getClass", "()Ljava/lang/Class;"⟩) (wd177 hw) (wd149 hw) (wd178 hw) (wd179 hw) (wd150 hw) (wd169 hw) (wd170 hw) (wd129 hw) (wd152 hw) (by decide) (by decide) rfl rfl E_a1 M_a rfl d28_1 (leB rfl) (by first | exact leB rfl | decide +kernel) rfl ?_
  intro T X
  refine X.ldcM (pc' := 8) (wd180 hw) M_u d28_6 rfl ?_
  intro T X
  by_cases hau : ma = mu
  · subst hau
    refine X.acmp (pc' := 22) d28_8 rfl rfl true (by simp) (by decide) (by decide) ?_
    refine X.aloadN (pc' := 23) d28_22 rfl rfl rfl ?_
    exact X.retAN rfl rfl d28_23 (by decide) (by decide) ⟨_, rfl, a1, rfl, Or.inl rfl⟩
  · refine X.acmp (pc' := 11) d28_8 rfl rfl false (by simpa using hau) (by decide) (by decide) ?_
    refine X.aloadN (pc' := 12) d28_11 rfl rfl rfl ?_
    refine X.gclsI (pc' := 17) (xi := ⟨"java/util/List", "getClass", "()Ljava/lang/Class;"⟩) (wd182 hw) (wd149 hw) (wd178 hw) (wd179 hw) (wd150 hw) (wd169 hw) (wd170 hw) (wd129 hw) (wd152 hw) (by decide) (by decide) rfl rfl E_a1 M_a rfl d28_12 (leB rfl) (by first | exact leB rfl | decide +kernel) rfl ?_
    intro T X
    refine X.ldcM (pc' := 19) (wd183 hw) M_r d28_17 rfl ?_
    intro T X
    by_cases har : ma = mr
    · subst har
      refine X.acmp (pc' := 22) d28_19 rfl rfl true (by simp) (by decide) (by decide) ?_
      refine X.aloadN (pc' := 23) d28_22 rfl rfl rfl ?_
      exact X.retAN rfl rfl d28_23 (by decide) (by decide) ⟨_, rfl, a1, rfl, Or.inl rfl⟩
    · refine X.acmp (pc' := 24) d28_19 rfl rfl false (by simpa using har) (by decide) (by decide) ?_
      refine X.aloadN (pc' := 25) d28_24 rfl rfl rfl ?_
      refine X.instY (pc' := 28) (wd185 hw) (Ins.of_exa E_a1 (wd186 hw)) d28_25 rfl ?_
      intro T X
      refine X.ifN (pc' := 31) d28_28 (by decide) rfl ?_
      refine X.newO (pc' := 34) (wd183 hw) (wd187 hw) (wd188 hw) d28_31 (by decide) (by decide) rfl ?_
      intro T h u g_u Ex lt_u E_u D_u X1
      have z_u : Z.heap.size ≤ u := by rw [g_u]; exact X.old.1
      have s_u : s.heap.size ≤ u := by rw [g_u]; exact X.kp.1
      replace E_a1 := E_a1.ext Ex
      replace X := X1
      have F_u_c : Fld Z h u "java/util/Collections$UnmodifiableCollection" "c" "Ljava/util/Collection;" .null := D_u (Or.inr (wd206 hw)) (ty := (.object "java/util/Collection")) (by decide)
      have F_u_list : Fld Z h u "java/util/Collections$UnmodifiableList" "list" "Ljava/util/List;" .null := D_u (Or.inr (wd208 hw)) (ty := (.object "java/util/List")) (by decide)
      refine X.dup (pc' := 35) d28_34 rfl rfl ?_
      refine X.aloadN (pc' := 36) d28_35 rfl rfl rfl ?_
      refine X.callU (pc' := 39) (X.sSpecial rfl (wd189 hw) (wd190 hw) (wd191 hw) (by decide) rfl pd12 [(.ref a1)] rfl rfl d28_36) (rmUR l Z a0 hw u a1 _ X.old z_u ⟨E_u, F_u_c, F_u_list⟩) (wd191 hw) (wd188 hw) (leB rfl) (leB rfl) (leB rfl) (leB rfl) (sfS safeE sf0) (allS z_u all0) (allS (Or.inr s_u) all0) rfl ?_
      intro T h L X K q
      refine X.goto (pc' := 50) d28_39 (by decide) (by decide) ?_
      exact X.retAN rfl rfl d28_50 (by decide) (by decide) ⟨_, rfl, u, rfl, Or.inr ⟨s_u, q⟩⟩
set_option maxRecDepth 65536 in
set_option maxHeartbeats 40000000 in
theorem ef_rmIsE0 (m : MethodId) (a1 : Addr) : entryFrame m #[(.ref a1)] 1 = mkF m 0 #[.val (.ref a1)] [] := by first | (simp [entryFrame, mkF, argsToLocals, Value.category]; done) | (rfl)
set_option maxRecDepth 65536 in
set_option maxHeartbeats 40000000 in
theorem rmIsE0 (l : Launch) (Z : State) (a0 : Array Value) (hw : ∀ d ∈ tables_1, d.before a0 Z = true) (a1 : Addr) (h0 : Heap) (O : Ext Z.heap h0)  (ed : Value) (mc : Int32) (A1 : AL Z h0 a1 ed (0 : Int32) mc) :
    MN l Z (⟨"java/util/ArrayList", "isEmpty", "()Z"⟩ : MethodName) jdk_38_method_9_code 1 (some .boolean) [] ({ frames := 0, cells := 0, slots := 0, locals := 0 } : Room) #[(.ref a1)] h0 [] (RP h0 (fun w => w = .int 1)) := by
  refine MN.mk (a0 := a0) rfl rfl (plainFor_of_name pn5) O (fun m => ef_rmIsE0 m a1) ?_
  intro pg ev s m below meth cd T hh X
  subst hh
  refine X.aloadN (pc' := 1) d22_0 rfl rfl rfl ?_
  refine X.getF (pc' := 4) (wd91 hw) Via.refl A1.2.2.1 d22_1 rfl ?_
  intro T X
  refine X.ifN (pc' := 7) d22_4 (by decide) rfl ?_
  refine X.iconst (pc' := 8) (1 : Int32) d22_7 rfl rfl ?_
  refine X.goto (pc' := 12) d22_8 (by decide) (by decide) ?_
  exact X.retIN (by simp) rfl d22_12 (by decide) (by decide) ⟨_, rfl, rfl, rfl⟩
set_option maxRecDepth 65536 in
set_option maxHeartbeats 40000000 in
theorem ef_rmIsEN (m : MethodId) (a1 : Addr) : entryFrame m #[(.ref a1)] 1 = mkF m 0 #[.val (.ref a1)] [] := by first | (simp [entryFrame, mkF, argsToLocals, Value.category]; done) | (rfl)
set_option maxRecDepth 65536 in
set_option maxHeartbeats 40000000 in
theorem rmIsEN (l : Launch) (Z : State) (a0 : Array Value) (hw : ∀ d ∈ tables_1, d.before a0 Z = true) (a1 : Addr) (h0 : Heap) (O : Ext Z.heap h0) (n : Int32) (hn : ¬ n = 0) (ed : Value) (mc : Int32) (A1 : AL Z h0 a1 ed n mc) :
    MN l Z (⟨"java/util/ArrayList", "isEmpty", "()Z"⟩ : MethodName) jdk_38_method_9_code 1 (some .boolean) [] ({ frames := 0, cells := 0, slots := 0, locals := 0 } : Room) #[(.ref a1)] h0 [] (RP h0 (fun w => w = .int 0)) := by
  refine MN.mk (a0 := a0) rfl rfl (plainFor_of_name pn5) O (fun m => ef_rmIsEN m a1) ?_
  intro pg ev s m below meth cd T hh X
  subst hh
  refine X.aloadN (pc' := 1) d22_0 rfl rfl rfl ?_
  refine X.getF (pc' := 4) (wd91 hw) Via.refl A1.2.2.1 d22_1 rfl ?_
  intro T X
  refine X.ifY (pc' := 11) d22_4 ((if0 _ _).trans (feq hn).2) (by decide) (by decide) ?_
  refine X.iconst (pc' := 12) (0 : Int32) d22_11 rfl rfl ?_
  exact X.retIN (by simp) rfl d22_12 (by decide) (by decide) ⟨_, rfl, rfl, rfl⟩
set_option maxRecDepth 65536 in
set_option maxHeartbeats 40000000 in
theorem ef_rmUIsE (m : MethodId) (u : Addr) : entryFrame m #[(.ref u)] 1 = mkF m 0 #[.val (.ref u)] [] := by first | (simp [entryFrame, mkF, argsToLocals, Value.category]; done) | (rfl)
set_option maxRecDepth 65536 in
set_option maxHeartbeats 40000000 in
theorem rmUIsE (l : Launch) (Z : State) (a0 : Array Value) (hw : ∀ d ∈ tables_1, d.before a0 Z = true) (u : Addr) (h0 : Heap) (O : Ext Z.heap h0) (a1 : Addr) (v2 : Value) (U : UL Z h0 u (.ref a1) v2) (n : Int32) (hn : ¬ n = 0) (ed : Value) (mc : Int32) (A1 : AL Z h0 a1 ed n mc) :
    MN l Z (⟨"java/util/Collections$UnmodifiableCollection", "isEmpty", "()Z"⟩ : MethodName) jdk_119_method_3_code 1 (some .boolean) [] ({ frames := 1, cells := 0, slots := 0, locals := 20 } : Room) #[(.ref u)] h0 [] (RP h0 (fun w => w = .int 0)) := by
  refine MN.mk (a0 := a0) rfl rfl (plainFor_of_name pn9) O (fun m => ef_rmUIsE m u) ?_
  intro pg ev s m below meth cd T hh X
  subst hh
  refine X.aloadN (pc' := 1) d32_0 rfl rfl rfl ?_
  refine X.getF (pc' := 4) (wd205 hw) Via.refl U.2.1 d32_1 rfl ?_
  intro T X
  refine X.callP (pc' := 9) (X.sFace (y := (⟨"java/util/ArrayList", "isEmpty", "()Z"⟩ : MethodName)) (wd215 hw) (wd216 hw) (wd217 hw) rfl (wd218 hw) (wd126 hw) (wd127 hw) (wd128 hw) (wd142 hw) (by decide) rfl pd13 A1.1 [] rfl rfl d32_4) (rmIsEN l Z a0 hw a1 _ X.old n hn ed mc A1) (wd130 hw) (wd46 hw) (leB rfl) (leB rfl) (leB rfl) (leB rfl) rfl ?_
  intro T L v X q
  subst q
  exact X.retIN (by simp) rfl d32_9 (by decide) (by decide) ⟨_, rfl, rfl, rfl⟩
set_option maxRecDepth 65536 in
set_option maxHeartbeats 40000000 in
theorem ef_rmOf0 (m : MethodId)  : entryFrame m #[] 0 = mkF m 0 #[] [] := by first | (simp [entryFrame, mkF, argsToLocals, Value.category]; done) | (rfl)
set_option maxRecDepth 65536 in
set_option maxHeartbeats 40000000 in
theorem rmOf0 (l : Launch) (Z : State) (a0 : Array Value) (hw : ∀ d ∈ tables_1, d.before a0 Z = true)  (h0 : Heap) (O : Ext Z.heap h0) (eo : Addr) (SE : Sta Z Z.heap "java/util/ImmutableCollections" "EMPTY_LIST" "Ljava/util/ImmutableCollections$ListN;" (.ref eo)) :
    MN l Z (⟨"java/util/List", "of", "()Ljava/util/List;"⟩ : MethodName) jdk_40_method_36_code 0 (some (.object "java/util/List")) [] ({ frames := 0, cells := 0, slots := 0, locals := 0 } : Room) #[] h0 [] (RP h0 (fun w => w = .ref eo)) := by
  refine MN.mk (a0 := a0) rfl rfl (plainFor_of_name pn13) O (fun m => ef_rmOf0 m ) ?_
  intro pg ev s m below meth cd T hh X
  subst hh
  refine X.getS (pc' := 3) (wd255 hw) Via.refl SE d37_0 rfl ?_
  intro T X
  exact X.retAN rfl rfl d37_3 (by decide) (by decide) ⟨_, rfl, rfl, rfl⟩
set_option maxRecDepth 65536 in
set_option maxHeartbeats 40000000 in
theorem ef_rmLNE (m : MethodId) (eo : Addr) : entryFrame m #[(.ref eo)] 1 = mkF m 0 #[.val (.ref eo)] [] := by first | (simp [entryFrame, mkF, argsToLocals, Value.category]; done) | (rfl)
set_option maxRecDepth 65536 in
set_option maxHeartbeats 40000000 in
theorem rmLNE (l : Launch) (Z : State) (a0 : Array Value) (hw : ∀ d ∈ tables_1, d.before a0 Z = true) (eo : Addr) (h0 : Heap) (O : Ext Z.heap h0) (el : Addr) (FE : Fld Z h0 eo "java/util/ImmutableCollections$ListN" "elements" "[Ljava/lang/Object;" (.ref el)) (VE : Emp Z h0 el) :
    MN l Z (⟨"java/util/ImmutableCollections$ListN", "isEmpty", "()Z"⟩ : MethodName) jdk_45_method_2_code 1 (some .boolean) [] ({ frames := 0, cells := 0, slots := 0, locals := 0 } : Room) #[(.ref eo)] h0 [] (RP h0 (fun w => w = .int 1)) := by
  refine MN.mk (a0 := a0) rfl rfl (plainFor_of_name pn14) O (fun m => ef_rmLNE m eo) ?_
  intro pg ev s m below meth cd T hh X
  subst hh
  refine X.aloadN (pc' := 1) d38_0 rfl rfl rfl ?_
  refine X.getF (pc' := 4) (wd264 hw) Via.refl FE d38_1 rfl ?_
  intro T X
  refine X.alen0 (pc' := 5) VE d38_4 rfl ?_
  refine X.ifN (pc' := 8) d38_5 (by decide) rfl ?_
  refine X.iconst (pc' := 9) (1 : Int32) d38_8 rfl rfl ?_
  refine X.goto (pc' := 13) d38_9 (by decide) (by decide) ?_
  exact X.retIN (by simp) rfl d38_13 (by decide) (by decide) ⟨_, rfl, rfl, rfl⟩
set_option maxRecDepth 65536 in
set_option maxHeartbeats 40000000 in
theorem ef_rmAtom (m : MethodId) (a1 : Addr) (v0 : Value) (hv0 : v0.isRef = true) (p1 : Int32) : entryFrame m #[(.ref a1), v0, (.int p1)] 3 = mkF m 0 #[.val (.ref a1), .val v0, .val (.int p1)] [] := by first | (simp [entryFrame, mkF, argsToLocals, Value.category, catR hv0]; done) | (rcases ref_cases hv0 with rfl | ⟨_, rfl⟩ <;> rfl)
set_option maxRecDepth 65536 in
set_option maxHeartbeats 40000000 in
theorem rmAtom (l : Launch) (Z : State) (a0 : Array Value) (hw : ∀ d ∈ tables_1, d.before a0 Z = true) (a1 : Addr) (v0 : Value) (hv0 : v0.isRef = true) (p1 : Int32) (h0 : Heap) (O : Ext Z.heap h0)  (za : Z.heap.size ≤ a1) (E_a1 : Exa Z h0 a1 "com/example/treegraft/treegraft/brackets/Atom") (F_a1_text : Fld Z h0 a1 "com/example/treegraft/treegraft/brackets/Atom" "text" "Ljava/lang/String;" .null) (F_a1_line : Fld Z h0 a1 "com/example/treegraft/treegraft/brackets/Atom" "line" "I" (.int (0 : Int32))) :
    MN l Z (⟨"com/example/treegraft/treegraft/brackets/Atom", "<init>", "(Ljava/lang/String;I)V"⟩ : MethodName) prog_5_method_1_code 3 none [] ({ frames := 2, cells := 0, slots := 0, locals := 40 } : Room) #[(.ref a1), v0, (.int p1)] h0 [a1] (RU (fun h => Exa Z h a1 "com/example/treegraft/treegraft/brackets/Atom" ∧ Fld Z h a1 "com/example/treegraft/treegraft/brackets/Atom" "text" "Ljava/lang/String;" v0 ∧ Fld Z h a1 "com/example/treegraft/treegraft/brackets/Atom" "line" "I" (.int p1))) := by
  refine MN.mk (a0 := a0) rfl rfl (plainFor_of_name pn15) O (fun m => ef_rmAtom m a1 v0 hv0 p1) ?_
  intro pg ev s m below meth cd T hh X
  subst hh
  refine X.aloadN (pc' := 1) d14_0 rfl rfl rfl ?_
  refine X.callO (pc' := 4) (X.sSpecial rfl (wd74 hw) (wd75 hw) (wd78 hw) (by decide) rfl pd4 [] rfl rfl d14_1) (rmRec l Z a0 hw a1 _ O) (wd78 hw) (wd77 hw) (leB rfl) (leB rfl) (leB rfl) (leB rfl) rfl ?_
  intro T L X
  refine X.aloadN (pc' := 5) d14_4 rfl rfl rfl ?_
  refine X.aloadN (pc' := 6) d14_5 rfl hv0 rfl ?_
  refine X.putF (pc' := 9) (wd80 hw) Via.refl F_a1_text E_a1 (Or.inr ⟨(wd81 hw), rfl, rfl⟩) (wd69 hw) (.object "java/lang/String") (by decide) (narR hv0) (fitR hv0) safeE za (Or.inl (List.mem_of_getElem? (i := 0) rfl)) d14_6 rfl ?_
  intro T h L X W
  replace F_a1_line := F_a1_line.other W (Or.inr (slot_ne (Or.inr (wd83 hw)) (Or.inr (wd81 hw)) (by decide) (t := .int) (t' := (.object "java/lang/String")) (by decide) (by decide)))
  replace E_a1 := E_a1.wr W
  replace F_a1_text := F_a1_text.same W
  refine X.aloadN (pc' := 10) d14_9 rfl rfl rfl ?_
  refine X.iloadN (pc' := 11) d14_10 rfl rfl ?_
  refine X.putF (pc' := 14) (wd82 hw) Via.refl F_a1_line E_a1 (Or.inr ⟨(wd83 hw), rfl, rfl⟩) (wd69 hw) .int (by decide) rfl rfl safeE za (Or.inl (List.mem_of_getElem? (i := 0) rfl)) d14_11 rfl ?_
  intro T h L X W
  replace F_a1_text := F_a1_text.other W (Or.inr (slot_ne (Or.inr (wd81 hw)) (Or.inr (wd83 hw)) (by decide) (t := (.object "java/lang/String")) (t' := .int) (by decide) (by decide)))
  replace E_a1 := E_a1.wr W
  replace F_a1_line := F_a1_line.same W
  exact X.retUN d14_14 (by decide) (by decide) ⟨rfl, E_a1, F_a1_text, F_a1_line⟩
set_option maxRecDepth 65536 in
set_option maxHeartbeats 40000000 in
theorem ef_rmBrW (m : MethodId) (a1 : Addr) (v1 : Value) (hv1 : v1.isRef = true) (x2 : Addr) (a3 : Addr) (p4 : Int32) : entryFrame m #[(.ref a1), v1, (.ref x2), (.ref a3), (.int p4)] 5 = mkF m 0 #[.val (.ref a1), .val v1, .val (.ref x2), .val (.ref a3), .val (.int p4)] [] := by first | (simp [entryFrame, mkF, argsToLocals, Value.category, catR hv1]; done) | (rcases ref_cases hv1 with rfl | ⟨_, rfl⟩ <;> rfl)
set_option maxRecDepth 65536 in
set_option maxHeartbeats 40000000 in
theorem rmBrW (l : Launch) (Z : State) (a0 : Array Value) (hw : ∀ d ∈ tables_1, d.before a0 Z = true) (a1 : Addr) (v1 : Value) (hv1 : v1.isRef = true) (x2 : Addr) (a3 : Addr) (p4 : Int32) (h0 : Heap) (O : Ext Z.heap h0) (eo : Addr) (SE : Sta Z Z.heap "java/util/ImmutableCollections" "EMPTY_LIST" "Ljava/util/ImmutableCollections$ListN;" (.ref eo)) (E_eo : Exa Z Z.heap eo "java/util/ImmutableCollections$ListN") (el : Addr) (FE : Fld Z Z.heap eo "java/util/ImmutableCollections$ListN" "elements" "[Ljava/lang/Object;" (.ref el)) (VE : Emp Z Z.heap el) (za : Z.heap.size ≤ a1) (E_a1 : Exa Z h0 a1 "com/example/treegraft/treegraft/brackets/Bracket") (F_a1_label : Fld Z h0 a1 "com/example/treegraft/treegraft/brackets/Bracket" "label" "Ljava/lang/String;" .null) (F_a1_word : Fld Z h0 a1 "com/example/treegraft/treegraft/brackets/Bracket" "word" "Ljava/lang/String;" .null) (F_a1_children : Fld Z h0 a1 "com/example/treegraft/treegraft/brackets/Bracket" "children" "Ljava/util/List;" .null) (F_a1_line : Fld Z h0 a1 "com/example/treegraft/treegraft/brackets/Bracket" "line" "I" (.int (0 : Int32))) (ed : Value) (mc : Int32) (A3 : AL Z h0 a3 ed 0 mc) :
    MN l Z (⟨"com/example/treegraft/treegraft/brackets/Bracket", "<init>", "(Ljava/lang/String;Ljava/lang/String;Ljava/util/List;I)V"⟩ : MethodName) prog_6_method_1_code 5 none [] ({ frames := 3, cells := 0, slots := 0, locals := 60 } : Room) #[(.ref a1), v1, (.ref x2), (.ref a3), (.int p4)] h0 [a1] (RU (fun h => Exa Z h a1 "com/example/treegraft/treegraft/brackets/Bracket" ∧ Fld Z h a1 "com/example/treegraft/treegraft/brackets/Bracket" "label" "Ljava/lang/String;" v1 ∧ Fld Z h a1 "com/example/treegraft/treegraft/brackets/Bracket" "word" "Ljava/lang/String;" (.ref x2) ∧ Fld Z h a1 "com/example/treegraft/treegraft/brackets/Bracket" "children" "Ljava/util/List;" (.ref eo) ∧ Fld Z h a1 "com/example/treegraft/treegraft/brackets/Bracket" "line" "I" (.int p4))) := by
  refine MN.mk (a0 := a0) rfl rfl (plainFor_of_name pn16) O (fun m => ef_rmBrW m a1 v1 hv1 x2 a3 p4) ?_
  intro pg ev s m below meth cd T hh X
  subst hh
  have lt_a1 := E_a1.lt
  refine X.aloadN (pc' := 1) d21_0 rfl rfl rfl ?_
  refine X.callO (pc' := 4) (X.sSpecial rfl (wd121 hw) (wd75 hw) (wd78 hw) (by decide) rfl pd4 [] rfl rfl d21_1) (rmRec l Z a0 hw a1 _ X.old) (wd78 hw) (wd77 hw) (leB rfl) (leB rfl) (leB rfl) (leB rfl) rfl ?_
  intro T L X
  refine X.aloadN (pc' := 5) d21_4 rfl rfl rfl ?_
  refine X.callP (pc' := 10) (X.sFace (y := (⟨"java/util/ArrayList", "isEmpty", "()Z"⟩ : MethodName)) (wd122 hw) (wd123 hw) (wd124 hw) rfl (wd125 hw) (wd126 hw) (wd127 hw) (wd128 hw) (wd129 hw) (by decide) rfl pd13 A3.1 [] rfl rfl d21_5) (rmIsE0 l Z a0 hw a3 _ X.old _ _ A3) (wd130 hw) (wd46 hw) (leB rfl) (leB rfl) (leB rfl) (leB rfl) rfl ?_
  intro T L v X q
  subst q
  refine X.ifN (pc' := 13) d21_10 (by decide) rfl ?_
  refine X.callP (pc' := 16) (X.sStatic (wd251 hw) (wd252 hw) (wd253 hw) (wd254 hw) (by decide) rfl pd14 [] rfl rfl d21_13) (rmOf0 l Z a0 hw _ X.old eo SE) (wd254 hw) (wd253 hw) (leB rfl) (leB rfl) (leB rfl) (leB rfl) rfl ?_
  intro T L v X q
  subst q
  refine X.goto (pc' := 30) d21_16 (by decide) (by decide) ?_
  refine X.astoreN (pc' := 31) #[.val (.ref a1), .val v1, .val (.ref x2), .val (.ref eo), .val (.int p4)] d21_30 rfl rfl rfl ?_
  refine X.aloadN (pc' := 32) d21_31 rfl rfl rfl ?_
  refine X.nonY (pc' := 39) d21_32 (by decide) (by decide) ?_
  refine X.iconst (pc' := 40) (0 : Int32) d21_39 rfl rfl ?_
  refine X.aloadN (pc' := 41) d21_40 rfl rfl rfl ?_
  refine X.callP (pc' := 46) (X.sFace (y := (⟨"java/util/ImmutableCollections$ListN", "isEmpty", "()Z"⟩ : MethodName)) (wd122 hw) (wd123 hw) (wd124 hw) rfl (wd257 hw) (wd258 hw) (wd259 hw) (wd260 hw) (wd261 hw) (by decide) rfl pd13 (E_eo.ext X.old) [] rfl rfl d21_41) (rmLNE l Z a0 hw eo _ X.old el (FE.ext X.old) (VE.ext X.old)) (wd263 hw) (wd262 hw) (leB rfl) (leB rfl) (leB rfl) (leB rfl) rfl ?_
  intro T L v X q
  subst q
  refine X.icY (pc' := 63) d21_46 (by decide) (by decide) (by decide) ?_
  refine X.aloadN (pc' := 64) d21_63 rfl rfl rfl ?_
  refine X.aloadN (pc' := 65) d21_64 rfl hv1 rfl ?_
  refine X.putF (pc' := 68) (wd219 hw) Via.refl F_a1_label E_a1 (Or.inr ⟨(wd220 hw), rfl, rfl⟩) (wd116 hw) (.object "java/lang/String") (by decide) (narR hv1) (fitR hv1) safeE za (Or.inl (List.mem_of_getElem? (i := 0) rfl)) d21_65 rfl ?_
  intro T h L X W
  replace F_a1_word := F_a1_word.other W (Or.inr (slot_ne (Or.inr (wd222 hw)) (Or.inr (wd220 hw)) (by decide) (t := (.object "java/lang/String")) (t' := (.object "java/lang/String")) (by decide) (by decide)))
  replace F_a1_children := F_a1_children.other W (Or.inr (slot_ne (Or.inr (wd224 hw)) (Or.inr (wd220 hw)) (by decide) (t := (.object "java/util/List")) (t' := (.object "java/lang/String")) (by decide) (by decide)))
  replace F_a1_line := F_a1_line.other W (Or.inr (slot_ne (Or.inr (wd226 hw)) (Or.inr (wd220 hw)) (by decide) (t := .int) (t' := (.object "java/lang/String")) (by decide) (by decide)))
  replace E_a1 := E_a1.wr W
  replace lt_a1 := Nat.lt_of_lt_of_le lt_a1 (Keep.of_wr W).1
  replace F_a1_label := F_a1_label.same W
  refine X.aloadN (pc' := 69) d21_68 rfl rfl rfl ?_
  refine X.aloadN (pc' := 70) d21_69 rfl rfl rfl ?_
  refine X.putF (pc' := 73) (wd221 hw) Via.refl F_a1_word E_a1 (Or.inr ⟨(wd222 hw), rfl, rfl⟩) (wd116 hw) (.object "java/lang/String") (by decide) rfl rfl safeE za (Or.inl (List.mem_of_getElem? (i := 0) rfl)) d21_70 rfl ?_
  intro T h L X W
  replace F_a1_label := F_a1_label.other W (Or.inr (slot_ne (Or.inr (wd220 hw)) (Or.inr (wd222 hw)) (by decide) (t := (.object "java/lang/String")) (t' := (.object "java/lang/String")) (by decide) (by decide)))
  replace F_a1_children := F_a1_children.other W (Or.inr (slot_ne (Or.inr (wd224 hw)) (Or.inr (wd222 hw)) (by decide) (t := (.object "java/util/List")) (t' := (.object "java/lang/String")) (by decide) (by decide)))
  replace F_a1_line := F_a1_line.other W (Or.inr (slot_ne (Or.inr (wd226 hw)) (Or.inr (wd222 hw)) (by decide) (t := .int) (t' := (.object "java/lang/String")) (by decide) (by decide)))
  replace E_a1 := E_a1.wr W
  replace lt_a1 := Nat.lt_of_lt_of_le lt_a1 (Keep.of_wr W).1
  replace F_a1_word := F_a1_word.same W
  refine X.aloadN (pc' := 74) d21_73 rfl rfl rfl ?_
  refine X.aloadN (pc' := 75) d21_74 rfl rfl rfl ?_
  refine X.putF (pc' := 78) (wd223 hw) Via.refl F_a1_children E_a1 (Or.inr ⟨(wd224 hw), rfl, rfl⟩) (wd116 hw) (.object "java/util/List") (by decide) rfl rfl safeE za (Or.inl (List.mem_of_getElem? (i := 0) rfl)) d21_75 rfl ?_
  intro T h L X W
  replace F_a1_label := F_a1_label.other W (Or.inr (slot_ne (Or.inr (wd220 hw)) (Or.inr (wd224 hw)) (by decide) (t := (.object "java/lang/String")) (t' := (.object "java/util/List")) (by decide) (by decide)))
  replace F_a1_word := F_a1_word.other W (Or.inr (slot_ne (Or.inr (wd222 hw)) (Or.inr (wd224 hw)) (by decide) (t := (.object "java/lang/String")) (t' := (.object "java/util/List")) (by decide) (by decide)))
  replace F_a1_line := F_a1_line.other W (Or.inr (slot_ne (Or.inr (wd226 hw)) (Or.inr (wd224 hw)) (by decide) (t := .int) (t' := (.object "java/util/List")) (by decide) (by decide)))
  replace E_a1 := E_a1.wr W
  replace lt_a1 := Nat.lt_of_lt_of_le lt_a1 (Keep.of_wr W).1
  replace F_a1_children := F_a1_children.same W
  refine X.aloadN (pc' := 79) d21_78 rfl rfl rfl ?_
  refine X.iload (pc' := 81) d21_79 rfl rfl ?_
  refine X.putF (pc' := 84) (wd225 hw) Via.refl F_a1_line E_a1 (Or.inr ⟨(wd226 hw), rfl, rfl⟩) (wd116 hw) .int (by decide) rfl rfl safeE za (Or.inl (List.mem_of_getElem? (i := 0) rfl)) d21_81 rfl ?_
  intro T h L X W
  replace F_a1_label := F_a1_label.other W (Or.inr (slot_ne (Or.inr (wd220 hw)) (Or.inr (wd226 hw)) (by decide) (t := (.object "java/lang/String")) (t' := .int) (by decide) (by decide)))
  replace F_a1_word := F_a1_word.other W (Or.inr (slot_ne (Or.inr (wd222 hw)) (Or.inr (wd226 hw)) (by decide) (t := (.object "java/lang/String")) (t' := .int) (by decide) (by decide)))
  replace F_a1_children := F_a1_children.other W (Or.inr (slot_ne (Or.inr (wd224 hw)) (Or.inr (wd226 hw)) (by decide) (t := (.object "java/util/List")) (t' := .int) (by decide) (by decide)))
  replace E_a1 := E_a1.wr W
  replace lt_a1 := Nat.lt_of_lt_of_le lt_a1 (Keep.of_wr W).1
  replace F_a1_line := F_a1_line.same W
  exact X.retUN d21_84 (by decide) (by decide) ⟨rfl, E_a1, F_a1_label, F_a1_word, F_a1_children, F_a1_line⟩
set_option maxRecDepth 65536 in
set_option maxHeartbeats 40000000 in
theorem ef_rmBrN1 (m : MethodId) (a1 : Addr) (v1 : Value) (hv1 : v1.isRef = true) (a3 : Addr) (p4 : Int32) : entryFrame m #[(.ref a1), v1, .null, (.ref a3), (.int p4)] 5 = mkF m 0 #[.val (.ref a1), .val v1, .val .null, .val (.ref a3), .val (.int p4)] [] := by first | (simp [entryFrame, mkF, argsToLocals, Value.category, catR hv1]; done) | (rcases ref_cases hv1 with rfl | ⟨_, rfl⟩ <;> rfl)
set_option maxRecDepth 65536 in
set_option maxHeartbeats 40000000 in
theorem rmBrN1 (l : Launch) (Z : State) (a0 : Array Value) (hw : ∀ d ∈ tables_1, d.before a0 Z = true) (a1 : Addr) (v1 : Value) (hv1 : v1.isRef = true) (a3 : Addr) (p4 : Int32) (h0 : Heap) (O : Ext Z.heap h0) (mo : Addr) (M_o : Mrr Z "[Ljava/lang/Object;" mo) (ma : Addr) (M_a : Mrr Z "java/util/ArrayList" ma) (mu : Addr) (M_u : Mrr Z "java/util/Collections$UnmodifiableList" mu) (mr : Addr) (M_r : Mrr Z "java/util/Collections$UnmodifiableRandomAccessList" mr) (za : Z.heap.size ≤ a1) (E_a1 : Exa Z h0 a1 "com/example/treegraft/treegraft/brackets/Bracket") (F_a1_label : Fld Z h0 a1 "com/example/treegraft/treegraft/brackets/Bracket" "label" "Ljava/lang/String;" .null) (F_a1_word : Fld Z h0 a1 "com/example/treegraft/treegraft/brackets/Bracket" "word" "Ljava/lang/String;" .null) (F_a1_children : Fld Z h0 a1 "com/example/treegraft/treegraft/brackets/Bracket" "children" "Ljava/util/List;" .null) (F_a1_line : Fld Z h0 a1 "com/example/treegraft/treegraft/brackets/Bracket" "line" "I" (.int (0 : Int32))) (d : Addr) (ne3 : a3 ≠ a1) (ned : d ≠ a1) (mc : Int32) (A3 : AL Z h0 a3 (.ref d) (1 : Int32) mc) (e0 : Addr) (C0 : String) (wc0 : (Cond.castable C0 "java/lang/Object").before a0 Z = true) (E_e0 : Exa Z h0 e0 C0) (V_d : OA Z h0 d 10 [(.ref e0), (.null), (.null), (.null), (.null), (.null), (.null), (.null), (.null), (.null)]) :
    MN l Z (⟨"com/example/treegraft/treegraft/brackets/Bracket", "<init>", "(Ljava/lang/String;Ljava/lang/String;Ljava/util/List;I)V"⟩ : MethodName) prog_6_method_1_code 5 none [] ({ frames := 5, cells := 3, slots := 17, locals := 120 } : Room) #[(.ref a1), v1, .null, (.ref a3), (.int p4)] h0 [a1] (RU (fun h => ∃ u nl r, Exa Z h a1 "com/example/treegraft/treegraft/brackets/Bracket" ∧ Fld Z h a1 "com/example/treegraft/treegraft/brackets/Bracket" "label" "Ljava/lang/String;" v1 ∧ Fld Z h a1 "com/example/treegraft/treegraft/brackets/Bracket" "word" "Ljava/lang/String;" .null ∧ Fld Z h a1 "com/example/treegraft/treegraft/brackets/Bracket" "children" "Ljava/util/List;" (.ref u) ∧ Fld Z h a1 "com/example/treegraft/treegraft/brackets/Bracket" "line" "I" (.int p4) ∧ WU Z h u nl ∧ AL Z h nl (.ref r) (1 : Int32) 0)) := by
  refine MN.mk (a0 := a0) rfl rfl (plainFor_of_name pn16) O (fun m => ef_rmBrN1 m a1 v1 hv1 a3 p4) ?_
  intro pg ev s m below meth cd T hh X
  subst hh
  have lt_d := V_d.lt
  have lt_a3 := A3.lt
  have lt_a1 := E_a1.lt
  refine X.aloadN (pc' := 1) d21_0 rfl rfl rfl ?_
  refine X.callO (pc' := 4) (X.sSpecial rfl (wd121 hw) (wd75 hw) (wd78 hw) (by decide) rfl pd4 [] rfl rfl d21_1) (rmRec l Z a0 hw a1 _ X.old) (wd78 hw) (wd77 hw) (leB rfl) (leB rfl) (leB rfl) (leB rfl) rfl ?_
  intro T L X
  refine X.aloadN (pc' := 5) d21_4 rfl rfl rfl ?_
  refine X.callP (pc' := 10) (X.sFace (y := (⟨"java/util/ArrayList", "isEmpty", "()Z"⟩ : MethodName)) (wd122 hw) (wd123 hw) (wd124 hw) rfl (wd125 hw) (wd126 hw) (wd127 hw) (wd128 hw) (wd129 hw) (by decide) rfl pd13 A3.1 [] rfl rfl d21_5) (rmIsEN l Z a0 hw a3 _ X.old (1 : Int32) (by decide) _ _ A3) (wd130 hw) (wd46 hw) (leB rfl) (leB rfl) (leB rfl) (leB rfl) rfl ?_
  intro T L v X q
  subst q
  refine X.ifY (pc' := 19) d21_10 (by decide) (by decide) (by decide) ?_
  refine X.newO (pc' := 22) (wd131 hw) (wd45 hw) (wd46 hw) d21_19 (by decide) (by decide) rfl ?_
  intro T h nl g_nl Ex lt_nl E_nl D_nl X1
  have z_nl : Z.heap.size ≤ nl := by rw [g_nl]; exact X.old.1
  have s_nl : s.heap.size ≤ nl := by rw [g_nl]; exact X.kp.1
  have ne_d_nl : d ≠ nl := Nat.ne_of_lt (by rw [g_nl]; exact lt_d)
  have ne_a3_nl : a3 ≠ nl := Nat.ne_of_lt (by rw [g_nl]; exact lt_a3)
  have ne_a1_nl : a1 ≠ nl := Nat.ne_of_lt (by rw [g_nl]; exact lt_a1)
  replace lt_d := Nat.lt_of_lt_of_le lt_d Ex.1
  replace lt_a3 := Nat.lt_of_lt_of_le lt_a3 Ex.1
  replace A3 := A3.ext Ex
  replace V_d := V_d.ext Ex
  replace E_e0 := E_e0.ext Ex
  replace F_a1_label := F_a1_label.ext Ex
  replace F_a1_word := F_a1_word.ext Ex
  replace F_a1_children := F_a1_children.ext Ex
  replace F_a1_line := F_a1_line.ext Ex
  replace E_a1 := E_a1.ext Ex
  replace lt_a1 := Nat.lt_of_lt_of_le lt_a1 Ex.1
  replace X := X1
  have F_nl_elementData : Fld Z h nl "java/util/ArrayList" "elementData" "[Ljava/lang/Object;" .null := D_nl (Or.inl (wd67 hw)) (ty := (.array (.object "java/lang/Object"))) (by decide)
  have F_nl_size : Fld Z h nl "java/util/ArrayList" "size" "I" (.int (0 : Int32)) := D_nl (Or.inl (wd92 hw)) (ty := .int) (by decide)
  have F_nl_modCount : Fld Z h nl "java/util/AbstractList" "modCount" "I" (.int (0 : Int32)) := D_nl (Or.inl (wd64 hw)) (ty := .int) (by decide)
  refine X.dup (pc' := 23) d21_22 rfl rfl ?_
  refine X.aloadN (pc' := 24) d21_23 rfl rfl rfl ?_
  refine X.callU (pc' := 27) (X.sSpecial rfl (wd132 hw) (wd133 hw) (wd134 hw) (by decide) rfl pd11 [(.ref a3)] rfl rfl d21_24) (rmALC_1 l Z a0 hw nl a3 _ X.old z_nl ⟨E_nl, F_nl_elementData, F_nl_size, F_nl_modCount⟩ (Ne.symm ne_a3_nl) mo M_o ma M_a d ne_d_nl mc A3 e0 _ wc0 E_e0 V_d) (wd134 hw) (wd46 hw) (leB rfl) (leB rfl) (leB rfl) (leB rfl) (sfS safeE sf0) (allS z_nl all0) (allS (Or.inr s_nl) all0) rfl ?_
  intro T h L X K q
  replace lt_d := Nat.lt_of_lt_of_le lt_d K.1
  replace lt_a3 := Nat.lt_of_lt_of_le lt_a3 K.1
  replace A3 := A3.keep K (ninS ne_a3_nl nin0)
  replace V_d := V_d.keep K (ninS ne_d_nl nin0)
  replace E_e0 := E_e0.keep K
  replace F_a1_label := F_a1_label.keep K (ninS ne_a1_nl nin0)
  replace F_a1_word := F_a1_word.keep K (ninS ne_a1_nl nin0)
  replace F_a1_children := F_a1_children.keep K (ninS ne_a1_nl nin0)
  replace F_a1_line := F_a1_line.keep K (ninS ne_a1_nl nin0)
  replace E_a1 := E_a1.keep K
  replace lt_a1 := Nat.lt_of_lt_of_le lt_a1 K.1
  replace E_nl := E_nl.keep K
  replace lt_nl := Nat.lt_of_lt_of_le lt_nl K.1
  obtain ⟨r, le_r, A_nl, V_r⟩ := q
  refine X.callV (pc' := 30) (X.sStatic (wd173 hw) (wd174 hw) (wd175 hw) (wd176 hw) (by decide) rfl pd15 [(.ref nl)] rfl rfl d21_27) (rmUnm l Z a0 hw nl _ X.old ma M_a mu M_u mr M_r A_nl.1) (wd176 hw) (wd175 hw) (leB rfl) (leB rfl) (leB rfl) (leB rfl) sf0 all0 all0 rfl ?_
  intro T h L v X K q
  obtain ⟨u, rfl, hu⟩ := q
  have ne_a1_u : a1 ≠ u := hu.elim (fun q => by rw [q]; exact ne_a1_nl) (fun q => Nat.ne_of_lt (Nat.lt_of_lt_of_le lt_a1 q.1))
  replace F_a1_label := F_a1_label.keep K nin0
  replace F_a1_word := F_a1_word.keep K nin0
  replace F_a1_children := F_a1_children.keep K nin0
  replace F_a1_line := F_a1_line.keep K nin0
  replace E_a1 := E_a1.keep K
  replace lt_a1 := Nat.lt_of_lt_of_le lt_a1 K.1
  replace E_nl := E_nl.keep K
  replace lt_nl := Nat.lt_of_lt_of_le lt_nl K.1
  replace A_nl := A_nl.keep K nin0
  refine X.astoreN (pc' := 31) #[.val (.ref a1), .val v1, .val .null, .val (.ref u), .val (.int p4)] d21_30 rfl rfl rfl ?_
  refine X.aloadN (pc' := 32) d21_31 rfl rfl rfl ?_
  refine X.nonN (pc' := 35) d21_32 rfl ?_
  refine X.iconst (pc' := 36) (1 : Int32) d21_35 rfl rfl ?_
  refine X.goto (pc' := 40) d21_36 (by decide) (by decide) ?_
  refine X.aloadN (pc' := 41) d21_40 rfl rfl rfl ?_
  rcases hu with hu | ⟨-, U⟩
  · have A_u : AL Z h u (.ref r) (1 : Int32) 0 := by rw [hu]; exact A_nl
    refine X.callP (pc' := 46) (X.sFace (y := (⟨"java/util/ArrayList", "isEmpty", "()Z"⟩ : MethodName)) (wd122 hw) (wd123 hw) (wd124 hw) rfl (wd125 hw) (wd126 hw) (wd127 hw) (wd128 hw) (wd129 hw) (by decide) rfl pd13 A_u.1 [] rfl rfl d21_41) (rmIsEN l Z a0 hw u _ X.old (1 : Int32) (by decide) _ _ A_u) (wd130 hw) (wd46 hw) (leB rfl) (leB rfl) (leB rfl) (leB rfl) rfl ?_
    intro T L v X q
    subst q
    refine X.icY (pc' := 63) d21_46 (by decide) (by decide) (by decide) ?_
    refine X.aloadN (pc' := 64) d21_63 rfl rfl rfl ?_
    refine X.aloadN (pc' := 65) d21_64 rfl hv1 rfl ?_
    refine X.putF (pc' := 68) (wd219 hw) Via.refl F_a1_label E_a1 (Or.inr ⟨(wd220 hw), rfl, rfl⟩) (wd116 hw) (.object "java/lang/String") (by decide) (narR hv1) (fitR hv1) safeE za (Or.inl (List.mem_of_getElem? (i := 0) rfl)) d21_65 rfl ?_
    intro T h L X W
    replace F_a1_word := F_a1_word.other W (Or.inr (slot_ne (Or.inr (wd222 hw)) (Or.inr (wd220 hw)) (by decide) (t := (.object "java/lang/String")) (t' := (.object "java/lang/String")) (by decide) (by decide)))
    replace F_a1_children := F_a1_children.other W (Or.inr (slot_ne (Or.inr (wd224 hw)) (Or.inr (wd220 hw)) (by decide) (t := (.object "java/util/List")) (t' := (.object "java/lang/String")) (by decide) (by decide)))
    replace F_a1_line := F_a1_line.other W (Or.inr (slot_ne (Or.inr (wd226 hw)) (Or.inr (wd220 hw)) (by decide) (t := .int) (t' := (.object "java/lang/String")) (by decide) (by decide)))
    replace E_a1 := E_a1.wr W
    replace lt_a1 := Nat.lt_of_lt_of_le lt_a1 (Keep.of_wr W).1
    replace E_nl := E_nl.wr W
    replace lt_nl := Nat.lt_of_lt_of_le lt_nl (Keep.of_wr W).1
    replace A_nl := A_nl.other W (Ne.symm ne_a1_nl)
    replace F_a1_label := F_a1_label.same W
    refine X.aloadN (pc' := 69) d21_68 rfl rfl rfl ?_
    refine X.aloadN (pc' := 70) d21_69 rfl rfl rfl ?_
    refine X.putF (pc' := 73) (wd221 hw) Via.refl F_a1_word E_a1 (Or.inr ⟨(wd222 hw), rfl, rfl⟩) (wd116 hw) (.object "java/lang/String") (by decide) rfl rfl safeE za (Or.inl (List.mem_of_getElem? (i := 0) rfl)) d21_70 rfl ?_
    intro T h L X W
    replace F_a1_label := F_a1_label.other W (Or.inr (slot_ne (Or.inr (wd220 hw)) (Or.inr (wd222 hw)) (by decide) (t := (.object "java/lang/String")) (t' := (.object "java/lang/String")) (by decide) (by decide)))
    replace F_a1_children := F_a1_children.other W (Or.inr (slot_ne (Or.inr (wd224 hw)) (Or.inr (wd222 hw)) (by decide) (t := (.object "java/util/List")) (t' := (.object "java/lang/String")) (by decide) (by decide)))
    replace F_a1_line := F_a1_line.other W (Or.inr (slot_ne (Or.inr (wd226 hw)) (Or.inr (wd222 hw)) (by decide) (t := .int) (t' := (.object "java/lang/String")) (by decide) (by decide)))
    replace E_a1 := E_a1.wr W
    replace lt_a1 := Nat.lt_of_lt_of_le lt_a1 (Keep.of_wr W).1
    replace E_nl := E_nl.wr W
    replace lt_nl := Nat.lt_of_lt_of_le lt_nl (Keep.of_wr W).1
    replace A_nl := A_nl.other W (Ne.symm ne_a1_nl)
    replace F_a1_word := F_a1_word.same W
    refine X.aloadN (pc' := 74) d21_73 rfl rfl rfl ?_
    refine X.aloadN (pc' := 75) d21_74 rfl rfl rfl ?_
    refine X.putF (pc' := 78) (wd223 hw) Via.refl F_a1_children E_a1 (Or.inr ⟨(wd224 hw), rfl, rfl⟩) (wd116 hw) (.object "java/util/List") (by decide) rfl rfl safeE za (Or.inl (List.mem_of_getElem? (i := 0) rfl)) d21_75 rfl ?_
    intro T h L X W
    replace F_a1_label := F_a1_label.other W (Or.inr (slot_ne (Or.inr (wd220 hw)) (Or.inr (wd224 hw)) (by decide) (t := (.object "java/lang/String")) (t' := (.object "java/util/List")) (by decide) (by decide)))
    replace F_a1_word := F_a1_word.other W (Or.inr (slot_ne (Or.inr (wd222 hw)) (Or.inr (wd224 hw)) (by decide) (t := (.object "java/lang/String")) (t' := (.object "java/util/List")) (by decide) (by decide)))
    replace F_a1_line := F_a1_line.other W (Or.inr (slot_ne (Or.inr (wd226 hw)) (Or.inr (wd224 hw)) (by decide) (t := .int) (t' := (.object "java/util/List")) (by decide) (by decide)))
    replace E_a1 := E_a1.wr W
    replace lt_a1 := Nat.lt_of_lt_of_le lt_a1 (Keep.of_wr W).1
    replace E_nl := E_nl.wr W
    replace lt_nl := Nat.lt_of_lt_of_le lt_nl (Keep.of_wr W).1
    replace A_nl := A_nl.other W (Ne.symm ne_a1_nl)
    replace F_a1_children := F_a1_children.same W
    refine X.aloadN (pc' := 79) d21_78 rfl rfl rfl ?_
    refine X.iload (pc' := 81) d21_79 rfl rfl ?_
    refine X.putF (pc' := 84) (wd225 hw) Via.refl F_a1_line E_a1 (Or.inr ⟨(wd226 hw), rfl, rfl⟩) (wd116 hw) .int (by decide) rfl rfl safeE za (Or.inl (List.mem_of_getElem? (i := 0) rfl)) d21_81 rfl ?_
    intro T h L X W
    replace F_a1_label := F_a1_label.other W (Or.inr (slot_ne (Or.inr (wd220 hw)) (Or.inr (wd226 hw)) (by decide) (t := (.object "java/lang/String")) (t' := .int) (by decide) (by decide)))
    replace F_a1_word := F_a1_word.other W (Or.inr (slot_ne (Or.inr (wd222 hw)) (Or.inr (wd226 hw)) (by decide) (t := (.object "java/lang/String")) (t' := .int) (by decide) (by decide)))
    replace F_a1_children := F_a1_children.other W (Or.inr (slot_ne (Or.inr (wd224 hw)) (Or.inr (wd226 hw)) (by decide) (t := (.object "java/util/List")) (t' := .int) (by decide) (by decide)))
    replace E_a1 := E_a1.wr W
    replace lt_a1 := Nat.lt_of_lt_of_le lt_a1 (Keep.of_wr W).1
    replace E_nl := E_nl.wr W
    replace lt_nl := Nat.lt_of_lt_of_le lt_nl (Keep.of_wr W).1
    replace A_nl := A_nl.other W (Ne.symm ne_a1_nl)
    replace F_a1_line := F_a1_line.same W
    exact X.retUN d21_84 (by decide) (by decide) ⟨rfl, u, nl, r, E_a1, F_a1_label, F_a1_word, F_a1_children, F_a1_line, Or.inl hu, A_nl⟩
  · refine X.callP (pc' := 46) (X.sFace (y := (⟨"java/util/Collections$UnmodifiableCollection", "isEmpty", "()Z"⟩ : MethodName)) (wd122 hw) (wd123 hw) (wd124 hw) rfl (wd209 hw) (wd210 hw) (wd211 hw) (wd212 hw) (wd213 hw) (by decide) rfl pd13 U.1 [] rfl rfl d21_41) (rmUIsE l Z a0 hw u _ X.old nl _ U (1 : Int32) (by decide) _ _ A_nl) (wd214 hw) (wd202 hw) (leB rfl) (leB rfl) (leB rfl) (leB rfl) rfl ?_
    intro T L v X q
    subst q
    refine X.icY (pc' := 63) d21_46 (by decide) (by decide) (by decide) ?_
    refine X.aloadN (pc' := 64) d21_63 rfl rfl rfl ?_
    refine X.aloadN (pc' := 65) d21_64 rfl hv1 rfl ?_
    refine X.putF (pc' := 68) (wd219 hw) Via.refl F_a1_label E_a1 (Or.inr ⟨(wd220 hw), rfl, rfl⟩) (wd116 hw) (.object "java/lang/String") (by decide) (narR hv1) (fitR hv1) safeE za (Or.inl (List.mem_of_getElem? (i := 0) rfl)) d21_65 rfl ?_
    intro T h L X W
    replace F_a1_word := F_a1_word.other W (Or.inr (slot_ne (Or.inr (wd222 hw)) (Or.inr (wd220 hw)) (by decide) (t := (.object "java/lang/String")) (t' := (.object "java/lang/String")) (by decide) (by decide)))
    replace F_a1_children := F_a1_children.other W (Or.inr (slot_ne (Or.inr (wd224 hw)) (Or.inr (wd220 hw)) (by decide) (t := (.object "java/util/List")) (t' := (.object "java/lang/String")) (by decide) (by decide)))
    replace F_a1_line := F_a1_line.other W (Or.inr (slot_ne (Or.inr (wd226 hw)) (Or.inr (wd220 hw)) (by decide) (t := .int) (t' := (.object "java/lang/String")) (by decide) (by decide)))
    replace E_a1 := E_a1.wr W
    replace lt_a1 := Nat.lt_of_lt_of_le lt_a1 (Keep.of_wr W).1
    replace E_nl := E_nl.wr W
    replace lt_nl := Nat.lt_of_lt_of_le lt_nl (Keep.of_wr W).1
    replace A_nl := A_nl.other W (Ne.symm ne_a1_nl)
    replace U := U.other W (Ne.symm ne_a1_u)
    replace F_a1_label := F_a1_label.same W
    refine X.aloadN (pc' := 69) d21_68 rfl rfl rfl ?_
    refine X.aloadN (pc' := 70) d21_69 rfl rfl rfl ?_
    refine X.putF (pc' := 73) (wd221 hw) Via.refl F_a1_word E_a1 (Or.inr ⟨(wd222 hw), rfl, rfl⟩) (wd116 hw) (.object "java/lang/String") (by decide) rfl rfl safeE za (Or.inl (List.mem_of_getElem? (i := 0) rfl)) d21_70 rfl ?_
    intro T h L X W
    replace F_a1_label := F_a1_label.other W (Or.inr (slot_ne (Or.inr (wd220 hw)) (Or.inr (wd222 hw)) (by decide) (t := (.object "java/lang/String")) (t' := (.object "java/lang/String")) (by decide) (by decide)))
    replace F_a1_children := F_a1_children.other W (Or.inr (slot_ne (Or.inr (wd224 hw)) (Or.inr (wd222 hw)) (by decide) (t := (.object "java/util/List")) (t' := (.object "java/lang/String")) (by decide) (by decide)))
    replace F_a1_line := F_a1_line.other W (Or.inr (slot_ne (Or.inr (wd226 hw)) (Or.inr (wd222 hw)) (by decide) (t := .int) (t' := (.object "java/lang/String")) (by decide) (by decide)))
    replace E_a1 := E_a1.wr W
    replace lt_a1 := Nat.lt_of_lt_of_le lt_a1 (Keep.of_wr W).1
    replace E_nl := E_nl.wr W
    replace lt_nl := Nat.lt_of_lt_of_le lt_nl (Keep.of_wr W).1
    replace A_nl := A_nl.other W (Ne.symm ne_a1_nl)
    replace U := U.other W (Ne.symm ne_a1_u)
    replace F_a1_word := F_a1_word.same W
    refine X.aloadN (pc' := 74) d21_73 rfl rfl rfl ?_
    refine X.aloadN (pc' := 75) d21_74 rfl rfl rfl ?_
    refine X.putF (pc' := 78) (wd223 hw) Via.refl F_a1_children E_a1 (Or.inr ⟨(wd224 hw), rfl, rfl⟩) (wd116 hw) (.object "java/util/List") (by decide) rfl rfl safeE za (Or.inl (List.mem_of_getElem? (i := 0) rfl)) d21_75 rfl ?_
    intro T h L X W
    replace F_a1_label := F_a1_label.other W (Or.inr (slot_ne (Or.inr (wd220 hw)) (Or.inr (wd224 hw)) (by decide) (t := (.object "java/lang/String")) (t' := (.object "java/util/List")) (by decide) (by decide)))
    replace F_a1_word := F_a1_word.other W (Or.inr (slot_ne (Or.inr (wd222 hw)) (Or.inr (wd224 hw)) (by decide) (t := (.object "java/lang/String")) (t' := (.object "java/util/List")) (by decide) (by decide)))
    replace F_a1_line := F_a1_line.other W (Or.inr (slot_ne (Or.inr (wd226 hw)) (Or.inr (wd224 hw)) (by decide) (t := .int) (t' := (.object "java/util/List")) (by decide) (by decide)))
    replace E_a1 := E_a1.wr W
    replace lt_a1 := Nat.lt_of_lt_of_le lt_a1 (Keep.of_wr W).1
    replace E_nl := E_nl.wr W
    replace lt_nl := Nat.lt_of_lt_of_le lt_nl (Keep.of_wr W).1
    replace A_nl := A_nl.other W (Ne.symm ne_a1_nl)
    replace U := U.other W (Ne.symm ne_a1_u)
    replace F_a1_children := F_a1_children.same W
    refine X.aloadN (pc' := 79) d21_78 rfl rfl rfl ?_
    refine X.iload (pc' := 81) d21_79 rfl rfl ?_
    refine X.putF (pc' := 84) (wd225 hw) Via.refl F_a1_line E_a1 (Or.inr ⟨(wd226 hw), rfl, rfl⟩) (wd116 hw) .int (by decide) rfl rfl safeE za (Or.inl (List.mem_of_getElem? (i := 0) rfl)) d21_81 rfl ?_
    intro T h L X W
    replace F_a1_label := F_a1_label.other W (Or.inr (slot_ne (Or.inr (wd220 hw)) (Or.inr (wd226 hw)) (by decide) (t := (.object "java/lang/String")) (t' := .int) (by decide) (by decide)))
    replace F_a1_word := F_a1_word.other W (Or.inr (slot_ne (Or.inr (wd222 hw)) (Or.inr (wd226 hw)) (by decide) (t := (.object "java/lang/String")) (t' := .int) (by decide) (by decide)))
    replace F_a1_children := F_a1_children.other W (Or.inr (slot_ne (Or.inr (wd224 hw)) (Or.inr (wd226 hw)) (by decide) (t := (.object "java/util/List")) (t' := .int) (by decide) (by decide)))
    replace E_a1 := E_a1.wr W
    replace lt_a1 := Nat.lt_of_lt_of_le lt_a1 (Keep.of_wr W).1
    replace E_nl := E_nl.wr W
    replace lt_nl := Nat.lt_of_lt_of_le lt_nl (Keep.of_wr W).1
    replace A_nl := A_nl.other W (Ne.symm ne_a1_nl)
    replace U := U.other W (Ne.symm ne_a1_u)
    replace F_a1_line := F_a1_line.same W
    exact X.retUN d21_84 (by decide) (by decide) ⟨rfl, u, nl, r, E_a1, F_a1_label, F_a1_word, F_a1_children, F_a1_line, Or.inr U, A_nl⟩
set_option maxRecDepth 65536 in
set_option maxHeartbeats 40000000 in
theorem ef_rmBrN2 (m : MethodId) (a1 : Addr) (v1 : Value) (hv1 : v1.isRef = true) (a3 : Addr) (p4 : Int32) : entryFrame m #[(.ref a1), v1, .null, (.ref a3), (.int p4)] 5 = mkF m 0 #[.val (.ref a1), .val v1, .val .null, .val (.ref a3), .val (.int p4)] [] := by first | (simp [entryFrame, mkF, argsToLocals, Value.category, catR hv1]; done) | (rcases ref_cases hv1 with rfl | ⟨_, rfl⟩ <;> rfl)
set_option maxRecDepth 65536 in
set_option maxHeartbeats 40000000 in
theorem rmBrN2 (l : Launch) (Z : State) (a0 : Array Value) (hw : ∀ d ∈ tables_1, d.before a0 Z = true) (a1 : Addr) (v1 : Value) (hv1 : v1.isRef = true) (a3 : Addr) (p4 : Int32) (h0 : Heap) (O : Ext Z.heap h0) (mo : Addr) (M_o : Mrr Z "[Ljava/lang/Object;" mo) (ma : Addr) (M_a : Mrr Z "java/util/ArrayList" ma) (mu : Addr) (M_u : Mrr Z "java/util/Collections$UnmodifiableList" mu) (mr : Addr) (M_r : Mrr Z "java/util/Collections$UnmodifiableRandomAccessList" mr) (za : Z.heap.size ≤ a1) (E_a1 : Exa Z h0 a1 "com/example/treegraft/treegraft/brackets/Bracket") (F_a1_label : Fld Z h0 a1 "com/example/treegraft/treegraft/brackets/Bracket" "label" "Ljava/lang/String;" .null) (F_a1_word : Fld Z h0 a1 "com/example/treegraft/treegraft/brackets/Bracket" "word" "Ljava/lang/String;" .null) (F_a1_children : Fld Z h0 a1 "com/example/treegraft/treegraft/brackets/Bracket" "children" "Ljava/util/List;" .null) (F_a1_line : Fld Z h0 a1 "com/example/treegraft/treegraft/brackets/Bracket" "line" "I" (.int (0 : Int32))) (d : Addr) (ne3 : a3 ≠ a1) (ned : d ≠ a1) (mc : Int32) (A3 : AL Z h0 a3 (.ref d) (2 : Int32) mc) (e0 : Addr) (C0 : String) (wc0 : (Cond.castable C0 "java/lang/Object").before a0 Z = true) (E_e0 : Exa Z h0 e0 C0) (e1 : Addr) (C1 : String) (wc1 : (Cond.castable C1 "java/lang/Object").before a0 Z = true) (E_e1 : Exa Z h0 e1 C1) (V_d : OA Z h0 d 10 [(.ref e0), (.ref e1), (.null), (.null), (.null), (.null), (.null), (.null), (.null), (.null)]) :
    MN l Z (⟨"com/example/treegraft/treegraft/brackets/Bracket", "<init>", "(Ljava/lang/String;Ljava/lang/String;Ljava/util/List;I)V"⟩ : MethodName) prog_6_method_1_code 5 none [] ({ frames := 5, cells := 3, slots := 18, locals := 120 } : Room) #[(.ref a1), v1, .null, (.ref a3), (.int p4)] h0 [a1] (RU (fun h => ∃ u nl r, Exa Z h a1 "com/example/treegraft/treegraft/brackets/Bracket" ∧ Fld Z h a1 "com/example/treegraft/treegraft/brackets/Bracket" "label" "Ljava/lang/String;" v1 ∧ Fld Z h a1 "com/example/treegraft/treegraft/brackets/Bracket" "word" "Ljava/lang/String;" .null ∧ Fld Z h a1 "com/example/treegraft/treegraft/brackets/Bracket" "children" "Ljava/util/List;" (.ref u) ∧ Fld Z h a1 "com/example/treegraft/treegraft/brackets/Bracket" "line" "I" (.int p4) ∧ WU Z h u nl ∧ AL Z h nl (.ref r) (2 : Int32) 0)) := by
  refine MN.mk (a0 := a0) rfl rfl (plainFor_of_name pn16) O (fun m => ef_rmBrN2 m a1 v1 hv1 a3 p4) ?_
  intro pg ev s m below meth cd T hh X
  subst hh
  have lt_d := V_d.lt
  have lt_a3 := A3.lt
  have lt_a1 := E_a1.lt
  refine X.aloadN (pc' := 1) d21_0 rfl rfl rfl ?_
  refine X.callO (pc' := 4) (X.sSpecial rfl (wd121 hw) (wd75 hw) (wd78 hw) (by decide) rfl pd4 [] rfl rfl d21_1) (rmRec l Z a0 hw a1 _ X.old) (wd78 hw) (wd77 hw) (leB rfl) (leB rfl) (leB rfl) (leB rfl) rfl ?_
  intro T L X
  refine X.aloadN (pc' := 5) d21_4 rfl rfl rfl ?_
  refine X.callP (pc' := 10) (X.sFace (y := (⟨"java/util/ArrayList", "isEmpty", "()Z"⟩ : MethodName)) (wd122 hw) (wd123 hw) (wd124 hw) rfl (wd125 hw) (wd126 hw) (wd127 hw) (wd128 hw) (wd129 hw) (by decide) rfl pd13 A3.1 [] rfl rfl d21_5) (rmIsEN l Z a0 hw a3 _ X.old (2 : Int32) (by decide) _ _ A3) (wd130 hw) (wd46 hw) (leB rfl) (leB rfl) (leB rfl) (leB rfl) rfl ?_
  intro T L v X q
  subst q
  refine X.ifY (pc' := 19) d21_10 (by decide) (by decide) (by decide) ?_
  refine X.newO (pc' := 22) (wd131 hw) (wd45 hw) (wd46 hw) d21_19 (by decide) (by decide) rfl ?_
  intro T h nl g_nl Ex lt_nl E_nl D_nl X1
  have z_nl : Z.heap.size ≤ nl := by rw [g_nl]; exact X.old.1
  have s_nl : s.heap.size ≤ nl := by rw [g_nl]; exact X.kp.1
  have ne_d_nl : d ≠ nl := Nat.ne_of_lt (by rw [g_nl]; exact lt_d)
  have ne_a3_nl : a3 ≠ nl := Nat.ne_of_lt (by rw [g_nl]; exact lt_a3)
  have ne_a1_nl : a1 ≠ nl := Nat.ne_of_lt (by rw [g_nl]; exact lt_a1)
  replace lt_d := Nat.lt_of_lt_of_le lt_d Ex.1
  replace lt_a3 := Nat.lt_of_lt_of_le lt_a3 Ex.1
  replace A3 := A3.ext Ex
  replace V_d := V_d.ext Ex
  replace E_e0 := E_e0.ext Ex
  replace E_e1 := E_e1.ext Ex
  replace F_a1_label := F_a1_label.ext Ex
  replace F_a1_word := F_a1_word.ext Ex
  replace F_a1_children := F_a1_children.ext Ex
  replace F_a1_line := F_a1_line.ext Ex
  replace E_a1 := E_a1.ext Ex
  replace lt_a1 := Nat.lt_of_lt_of_le lt_a1 Ex.1
  replace X := X1
  have F_nl_elementData : Fld Z h nl "java/util/ArrayList" "elementData" "[Ljava/lang/Object;" .null := D_nl (Or.inl (wd67 hw)) (ty := (.array (.object "java/lang/Object"))) (by decide)
  have F_nl_size : Fld Z h nl "java/util/ArrayList" "size" "I" (.int (0 : Int32)) := D_nl (Or.inl (wd92 hw)) (ty := .int) (by decide)
  have F_nl_modCount : Fld Z h nl "java/util/AbstractList" "modCount" "I" (.int (0 : Int32)) := D_nl (Or.inl (wd64 hw)) (ty := .int) (by decide)
  refine X.dup (pc' := 23) d21_22 rfl rfl ?_
  refine X.aloadN (pc' := 24) d21_23 rfl rfl rfl ?_
  refine X.callU (pc' := 27) (X.sSpecial rfl (wd132 hw) (wd133 hw) (wd134 hw) (by decide) rfl pd11 [(.ref a3)] rfl rfl d21_24) (rmALC_2 l Z a0 hw nl a3 _ X.old z_nl ⟨E_nl, F_nl_elementData, F_nl_size, F_nl_modCount⟩ (Ne.symm ne_a3_nl) mo M_o ma M_a d ne_d_nl mc A3 e0 _ wc0 E_e0 e1 _ wc1 E_e1 V_d) (wd134 hw) (wd46 hw) (leB rfl) (leB rfl) (leB rfl) (leB rfl) (sfS safeE sf0) (allS z_nl all0) (allS (Or.inr s_nl) all0) rfl ?_
  intro T h L X K q
  replace lt_d := Nat.lt_of_lt_of_le lt_d K.1
  replace lt_a3 := Nat.lt_of_lt_of_le lt_a3 K.1
  replace A3 := A3.keep K (ninS ne_a3_nl nin0)
  replace V_d := V_d.keep K (ninS ne_d_nl nin0)
  replace E_e0 := E_e0.keep K
  replace E_e1 := E_e1.keep K
  replace F_a1_label := F_a1_label.keep K (ninS ne_a1_nl nin0)
  replace F_a1_word := F_a1_word.keep K (ninS ne_a1_nl nin0)
  replace F_a1_children := F_a1_children.keep K (ninS ne_a1_nl nin0)
  replace F_a1_line := F_a1_line.keep K (ninS ne_a1_nl nin0)
  replace E_a1 := E_a1.keep K
  replace lt_a1 := Nat.lt_of_lt_of_le lt_a1 K.1
  replace E_nl := E_nl.keep K
  replace lt_nl := Nat.lt_of_lt_of_le lt_nl K.1
  obtain ⟨r, le_r, A_nl, V_r⟩ := q
  refine X.callV (pc' := 30) (X.sStatic (wd173 hw) (wd174 hw) (wd175 hw) (wd176 hw) (by decide) rfl pd15 [(.ref nl)] rfl rfl d21_27) (rmUnm l Z a0 hw nl _ X.old ma M_a mu M_u mr M_r A_nl.1) (wd176 hw) (wd175 hw) (leB rfl) (leB rfl) (leB rfl) (leB rfl) sf0 all0 all0 rfl ?_
  intro T h L v X K q
  obtain ⟨u, rfl, hu⟩ := q
  have ne_a1_u : a1 ≠ u := hu.elim (fun q => by rw [q]; exact ne_a1_nl) (fun q => Nat.ne_of_lt (Nat.lt_of_lt_of_le lt_a1 q.1))
  replace F_a1_label := F_a1_label.keep K nin0
  replace F_a1_word := F_a1_word.keep K nin0
  replace F_a1_children := F_a1_children.keep K nin0
  replace F_a1_line := F_a1_line.keep K nin0
  replace E_a1 := E_a1.keep K
  replace lt_a1 := Nat.lt_of_lt_of_le lt_a1 K.1
  replace E_nl := E_nl.keep K
  replace lt_nl := Nat.lt_of_lt_of_le lt_nl K.1
  replace A_nl := A_nl.keep K nin0
  refine X.astoreN (pc' := 31) #[.val (.ref a1), .val v1, .val .null, .val (.ref u), .val (.int p4)] d21_30 rfl rfl rfl ?_
  refine X.aloadN (pc' := 32) d21_31 rfl rfl rfl ?_
  refine X.nonN (pc' := 35) d21_32 rfl ?_
  refine X.iconst (pc' := 36) (1 : Int32) d21_35 rfl rfl ?_
  refine X.goto (pc' := 40) d21_36 (by decide) (by decide) ?_
  refine X.aloadN (pc' := 41) d21_40 rfl rfl rfl ?_
  rcases hu with hu | ⟨-, U⟩
  · have A_u : AL Z h u (.ref r) (2 : Int32) 0 := by rw [hu]; exact A_nl
    refine X.callP (pc' := 46) (X.sFace (y := (⟨"java/util/ArrayList", "isEmpty", "()Z"⟩ : MethodName)) (wd122 hw) (wd123 hw) (wd124 hw) rfl (wd125 hw) (wd126 hw) (wd127 hw) (wd128 hw) (wd129 hw) (by decide) rfl pd13 A_u.1 [] rfl rfl d21_41) (rmIsEN l Z a0 hw u _ X.old (2 : Int32) (by decide) _ _ A_u) (wd130 hw) (wd46 hw) (leB rfl) (leB rfl) (leB rfl) (leB rfl) rfl ?_
    intro T L v X q
    subst q
    refine X.icY (pc' := 63) d21_46 (by decide) (by decide) (by decide) ?_
    refine X.aloadN (pc' := 64) d21_63 rfl rfl rfl ?_
    refine X.aloadN (pc' := 65) d21_64 rfl hv1 rfl ?_
    refine X.putF (pc' := 68) (wd219 hw) Via.refl F_a1_label E_a1 (Or.inr ⟨(wd220 hw), rfl, rfl⟩) (wd116 hw) (.object "java/lang/String") (by decide) (narR hv1) (fitR hv1) safeE za (Or.inl (List.mem_of_getElem? (i := 0) rfl)) d21_65 rfl ?_
    intro T h L X W
    replace F_a1_word := F_a1_word.other W (Or.inr (slot_ne (Or.inr (wd222 hw)) (Or.inr (wd220 hw)) (by decide) (t := (.object "java/lang/String")) (t' := (.object "java/lang/String")) (by decide) (by decide)))
    replace F_a1_children := F_a1_children.other W (Or.inr (slot_ne (Or.inr (wd224 hw)) (Or.inr (wd220 hw)) (by decide) (t := (.object "java/util/List")) (t' := (.object "java/lang/String")) (by decide) (by decide)))
    replace F_a1_line := F_a1_line.other W (Or.inr (slot_ne (Or.inr (wd226 hw)) (Or.inr (wd220 hw)) (by decide) (t := .int) (t' := (.object "java/lang/String")) (by decide) (by decide)))
    replace E_a1 := E_a1.wr W
    replace lt_a1 := Nat.lt_of_lt_of_le lt_a1 (Keep.of_wr W).1
    replace E_nl := E_nl.wr W
    replace lt_nl := Nat.lt_of_lt_of_le lt_nl (Keep.of_wr W).1
    replace A_nl := A_nl.other W (Ne.symm ne_a1_nl)
    replace F_a1_label := F_a1_label.same W
    refine X.aloadN (pc' := 69) d21_68 rfl rfl rfl ?_
    refine X.aloadN (pc' := 70) d21_69 rfl rfl rfl ?_
    refine X.putF (pc' := 73) (wd221 hw) Via.refl F_a1_word E_a1 (Or.inr ⟨(wd222 hw), rfl, rfl⟩) (wd116 hw) (.object "java/lang/String") (by decide) rfl rfl safeE za (Or.inl (List.mem_of_getElem? (i := 0) rfl)) d21_70 rfl ?_
    intro T h L X W
    replace F_a1_label := F_a1_label.other W (Or.inr (slot_ne (Or.inr (wd220 hw)) (Or.inr (wd222 hw)) (by decide) (t := (.object "java/lang/String")) (t' := (.object "java/lang/String")) (by decide) (by decide)))
    replace F_a1_children := F_a1_children.other W (Or.inr (slot_ne (Or.inr (wd224 hw)) (Or.inr (wd222 hw)) (by decide) (t := (.object "java/util/List")) (t' := (.object "java/lang/String")) (by decide) (by decide)))
    replace F_a1_line := F_a1_line.other W (Or.inr (slot_ne (Or.inr (wd226 hw)) (Or.inr (wd222 hw)) (by decide) (t := .int) (t' := (.object "java/lang/String")) (by decide) (by decide)))
    replace E_a1 := E_a1.wr W
    replace lt_a1 := Nat.lt_of_lt_of_le lt_a1 (Keep.of_wr W).1
    replace E_nl := E_nl.wr W
    replace lt_nl := Nat.lt_of_lt_of_le lt_nl (Keep.of_wr W).1
    replace A_nl := A_nl.other W (Ne.symm ne_a1_nl)
    replace F_a1_word := F_a1_word.same W
    refine X.aloadN (pc' := 74) d21_73 rfl rfl rfl ?_
    refine X.aloadN (pc' := 75) d21_74 rfl rfl rfl ?_
    refine X.putF (pc' := 78) (wd223 hw) Via.refl F_a1_children E_a1 (Or.inr ⟨(wd224 hw), rfl, rfl⟩) (wd116 hw) (.object "java/util/List") (by decide) rfl rfl safeE za (Or.inl (List.mem_of_getElem? (i := 0) rfl)) d21_75 rfl ?_
    intro T h L X W
    replace F_a1_label := F_a1_label.other W (Or.inr (slot_ne (Or.inr (wd220 hw)) (Or.inr (wd224 hw)) (by decide) (t := (.object "java/lang/String")) (t' := (.object "java/util/List")) (by decide) (by decide)))
    replace F_a1_word := F_a1_word.other W (Or.inr (slot_ne (Or.inr (wd222 hw)) (Or.inr (wd224 hw)) (by decide) (t := (.object "java/lang/String")) (t' := (.object "java/util/List")) (by decide) (by decide)))
    replace F_a1_line := F_a1_line.other W (Or.inr (slot_ne (Or.inr (wd226 hw)) (Or.inr (wd224 hw)) (by decide) (t := .int) (t' := (.object "java/util/List")) (by decide) (by decide)))
    replace E_a1 := E_a1.wr W
    replace lt_a1 := Nat.lt_of_lt_of_le lt_a1 (Keep.of_wr W).1
    replace E_nl := E_nl.wr W
    replace lt_nl := Nat.lt_of_lt_of_le lt_nl (Keep.of_wr W).1
    replace A_nl := A_nl.other W (Ne.symm ne_a1_nl)
    replace F_a1_children := F_a1_children.same W
    refine X.aloadN (pc' := 79) d21_78 rfl rfl rfl ?_
    refine X.iload (pc' := 81) d21_79 rfl rfl ?_
    refine X.putF (pc' := 84) (wd225 hw) Via.refl F_a1_line E_a1 (Or.inr ⟨(wd226 hw), rfl, rfl⟩) (wd116 hw) .int (by decide) rfl rfl safeE za (Or.inl (List.mem_of_getElem? (i := 0) rfl)) d21_81 rfl ?_
    intro T h L X W
    replace F_a1_label := F_a1_label.other W (Or.inr (slot_ne (Or.inr (wd220 hw)) (Or.inr (wd226 hw)) (by decide) (t := (.object "java/lang/String")) (t' := .int) (by decide) (by decide)))
    replace F_a1_word := F_a1_word.other W (Or.inr (slot_ne (Or.inr (wd222 hw)) (Or.inr (wd226 hw)) (by decide) (t := (.object "java/lang/String")) (t' := .int) (by decide) (by decide)))
    replace F_a1_children := F_a1_children.other W (Or.inr (slot_ne (Or.inr (wd224 hw)) (Or.inr (wd226 hw)) (by decide) (t := (.object "java/util/List")) (t' := .int) (by decide) (by decide)))
    replace E_a1 := E_a1.wr W
    replace lt_a1 := Nat.lt_of_lt_of_le lt_a1 (Keep.of_wr W).1
    replace E_nl := E_nl.wr W
    replace lt_nl := Nat.lt_of_lt_of_le lt_nl (Keep.of_wr W).1
    replace A_nl := A_nl.other W (Ne.symm ne_a1_nl)
    replace F_a1_line := F_a1_line.same W
    exact X.retUN d21_84 (by decide) (by decide) ⟨rfl, u, nl, r, E_a1, F_a1_label, F_a1_word, F_a1_children, F_a1_line, Or.inl hu, A_nl⟩
  · refine X.callP (pc' := 46) (X.sFace (y := (⟨"java/util/Collections$UnmodifiableCollection", "isEmpty", "()Z"⟩ : MethodName)) (wd122 hw) (wd123 hw) (wd124 hw) rfl (wd209 hw) (wd210 hw) (wd211 hw) (wd212 hw) (wd213 hw) (by decide) rfl pd13 U.1 [] rfl rfl d21_41) (rmUIsE l Z a0 hw u _ X.old nl _ U (2 : Int32) (by decide) _ _ A_nl) (wd214 hw) (wd202 hw) (leB rfl) (leB rfl) (leB rfl) (leB rfl) rfl ?_
    intro T L v X q
    subst q
    refine X.icY (pc' := 63) d21_46 (by decide) (by decide) (by decide) ?_
    refine X.aloadN (pc' := 64) d21_63 rfl rfl rfl ?_
    refine X.aloadN (pc' := 65) d21_64 rfl hv1 rfl ?_
    refine X.putF (pc' := 68) (wd219 hw) Via.refl F_a1_label E_a1 (Or.inr ⟨(wd220 hw), rfl, rfl⟩) (wd116 hw) (.object "java/lang/String") (by decide) (narR hv1) (fitR hv1) safeE za (Or.inl (List.mem_of_getElem? (i := 0) rfl)) d21_65 rfl ?_
    intro T h L X W
    replace F_a1_word := F_a1_word.other W (Or.inr (slot_ne (Or.inr (wd222 hw)) (Or.inr (wd220 hw)) (by decide) (t := (.object "java/lang/String")) (t' := (.object "java/lang/String")) (by decide) (by decide)))
    replace F_a1_children := F_a1_children.other W (Or.inr (slot_ne (Or.inr (wd224 hw)) (Or.inr (wd220 hw)) (by decide) (t := (.object "java/util/List")) (t' := (.object "java/lang/String")) (by decide) (by decide)))
    replace F_a1_line := F_a1_line.other W (Or.inr (slot_ne (Or.inr (wd226 hw)) (Or.inr (wd220 hw)) (by decide) (t := .int) (t' := (.object "java/lang/String")) (by decide) (by decide)))
    replace E_a1 := E_a1.wr W
    replace lt_a1 := Nat.lt_of_lt_of_le lt_a1 (Keep.of_wr W).1
    replace E_nl := E_nl.wr W
    replace lt_nl := Nat.lt_of_lt_of_le lt_nl (Keep.of_wr W).1
    replace A_nl := A_nl.other W (Ne.symm ne_a1_nl)
    replace U := U.other W (Ne.symm ne_a1_u)
    replace F_a1_label := F_a1_label.same W
    refine X.aloadN (pc' := 69) d21_68 rfl rfl rfl ?_
    refine X.aloadN (pc' := 70) d21_69 rfl rfl rfl ?_
    refine X.putF (pc' := 73) (wd221 hw) Via.refl F_a1_word E_a1 (Or.inr ⟨(wd222 hw), rfl, rfl⟩) (wd116 hw) (.object "java/lang/String") (by decide) rfl rfl safeE za (Or.inl (List.mem_of_getElem? (i := 0) rfl)) d21_70 rfl ?_
    intro T h L X W
    replace F_a1_label := F_a1_label.other W (Or.inr (slot_ne (Or.inr (wd220 hw)) (Or.inr (wd222 hw)) (by decide) (t := (.object "java/lang/String")) (t' := (.object "java/lang/String")) (by decide) (by decide)))
    replace F_a1_children := F_a1_children.other W (Or.inr (slot_ne (Or.inr (wd224 hw)) (Or.inr (wd222 hw)) (by decide) (t := (.object "java/util/List")) (t' := (.object "java/lang/String")) (by decide) (by decide)))
    replace F_a1_line := F_a1_line.other W (Or.inr (slot_ne (Or.inr (wd226 hw)) (Or.inr (wd222 hw)) (by decide) (t := .int) (t' := (.object "java/lang/String")) (by decide) (by decide)))
    replace E_a1 := E_a1.wr W
    replace lt_a1 := Nat.lt_of_lt_of_le lt_a1 (Keep.of_wr W).1
    replace E_nl := E_nl.wr W
    replace lt_nl := Nat.lt_of_lt_of_le lt_nl (Keep.of_wr W).1
    replace A_nl := A_nl.other W (Ne.symm ne_a1_nl)
    replace U := U.other W (Ne.symm ne_a1_u)
    replace F_a1_word := F_a1_word.same W
    refine X.aloadN (pc' := 74) d21_73 rfl rfl rfl ?_
    refine X.aloadN (pc' := 75) d21_74 rfl rfl rfl ?_
    refine X.putF (pc' := 78) (wd223 hw) Via.refl F_a1_children E_a1 (Or.inr ⟨(wd224 hw), rfl, rfl⟩) (wd116 hw) (.object "java/util/List") (by decide) rfl rfl safeE za (Or.inl (List.mem_of_getElem? (i := 0) rfl)) d21_75 rfl ?_
    intro T h L X W
    replace F_a1_label := F_a1_label.other W (Or.inr (slot_ne (Or.inr (wd220 hw)) (Or.inr (wd224 hw)) (by decide) (t := (.object "java/lang/String")) (t' := (.object "java/util/List")) (by decide) (by decide)))
    replace F_a1_word := F_a1_word.other W (Or.inr (slot_ne (Or.inr (wd222 hw)) (Or.inr (wd224 hw)) (by decide) (t := (.object "java/lang/String")) (t' := (.object "java/util/List")) (by decide) (by decide)))
    replace F_a1_line := F_a1_line.other W (Or.inr (slot_ne (Or.inr (wd226 hw)) (Or.inr (wd224 hw)) (by decide) (t := .int) (t' := (.object "java/util/List")) (by decide) (by decide)))
    replace E_a1 := E_a1.wr W
    replace lt_a1 := Nat.lt_of_lt_of_le lt_a1 (Keep.of_wr W).1
    replace E_nl := E_nl.wr W
    replace lt_nl := Nat.lt_of_lt_of_le lt_nl (Keep.of_wr W).1
    replace A_nl := A_nl.other W (Ne.symm ne_a1_nl)
    replace U := U.other W (Ne.symm ne_a1_u)
    replace F_a1_children := F_a1_children.same W
    refine X.aloadN (pc' := 79) d21_78 rfl rfl rfl ?_
    refine X.iload (pc' := 81) d21_79 rfl rfl ?_
    refine X.putF (pc' := 84) (wd225 hw) Via.refl F_a1_line E_a1 (Or.inr ⟨(wd226 hw), rfl, rfl⟩) (wd116 hw) .int (by decide) rfl rfl safeE za (Or.inl (List.mem_of_getElem? (i := 0) rfl)) d21_81 rfl ?_
    intro T h L X W
    replace F_a1_label := F_a1_label.other W (Or.inr (slot_ne (Or.inr (wd220 hw)) (Or.inr (wd226 hw)) (by decide) (t := (.object "java/lang/String")) (t' := .int) (by decide) (by decide)))
    replace F_a1_word := F_a1_word.other W (Or.inr (slot_ne (Or.inr (wd222 hw)) (Or.inr (wd226 hw)) (by decide) (t := (.object "java/lang/String")) (t' := .int) (by decide) (by decide)))
    replace F_a1_children := F_a1_children.other W (Or.inr (slot_ne (Or.inr (wd224 hw)) (Or.inr (wd226 hw)) (by decide) (t := (.object "java/util/List")) (t' := .int) (by decide) (by decide)))
    replace E_a1 := E_a1.wr W
    replace lt_a1 := Nat.lt_of_lt_of_le lt_a1 (Keep.of_wr W).1
    replace E_nl := E_nl.wr W
    replace lt_nl := Nat.lt_of_lt_of_le lt_nl (Keep.of_wr W).1
    replace A_nl := A_nl.other W (Ne.symm ne_a1_nl)
    replace U := U.other W (Ne.symm ne_a1_u)
    replace F_a1_line := F_a1_line.same W
    exact X.retUN d21_84 (by decide) (by decide) ⟨rfl, u, nl, r, E_a1, F_a1_label, F_a1_word, F_a1_children, F_a1_line, Or.inr U, A_nl⟩
set_option maxRecDepth 65536 in
set_option maxHeartbeats 40000000 in
theorem ef_rmIsW0 (m : MethodId) (a1 : Addr) : entryFrame m #[(.ref a1)] 1 = mkF m 0 #[.val (.ref a1)] [] := by first | (simp [entryFrame, mkF, argsToLocals, Value.category]; done) | (rfl)
set_option maxRecDepth 65536 in
set_option maxHeartbeats 40000000 in
theorem rmIsW0 (l : Launch) (Z : State) (a0 : Array Value) (hw : ∀ d ∈ tables_1, d.before a0 Z = true) (a1 : Addr) (h0 : Heap) (O : Ext Z.heap h0) (F : Fld Z h0 a1 "com/example/treegraft/treegraft/brackets/Bracket" "word" "Ljava/lang/String;" .null) :
    MN l Z (⟨"com/example/treegraft/treegraft/brackets/Bracket", "isWord", "()Z"⟩ : MethodName) prog_6_method_4_code 1 (some .boolean) [] ({ frames := 0, cells := 0, slots := 0, locals := 0 } : Room) #[(.ref a1)] h0 [] (RP h0 (fun w => w = .int 0)) := by
  refine MN.mk (a0 := a0) rfl rfl (plainFor_of_name pn16) O (fun m => ef_rmIsW0 m a1) ?_
  intro pg ev s m below meth cd T hh X
  subst hh
  refine X.aloadN (pc' := 1) d33_0 rfl rfl rfl ?_
  refine X.getF (pc' := 4) (wd221 hw) Via.refl F d33_1 rfl ?_
  intro T X
  refine X.nullY (pc' := 11) d33_4 (by decide) (by decide) ?_
  refine X.iconst (pc' := 12) (0 : Int32) d33_11 rfl rfl ?_
  exact X.retIN (by simp) rfl d33_12 (by decide) (by decide) ⟨_, rfl, rfl, rfl⟩
set_option maxRecDepth 65536 in
set_option maxHeartbeats 40000000 in
theorem ef_rmIsW1 (m : MethodId) (a1 : Addr) : entryFrame m #[(.ref a1)] 1 = mkF m 0 #[.val (.ref a1)] [] := by first | (simp [entryFrame, mkF, argsToLocals, Value.category]; done) | (rfl)
set_option maxRecDepth 65536 in
set_option maxHeartbeats 40000000 in
theorem rmIsW1 (l : Launch) (Z : State) (a0 : Array Value) (hw : ∀ d ∈ tables_1, d.before a0 Z = true) (a1 : Addr) (h0 : Heap) (O : Ext Z.heap h0) (x2 : Addr) (F : Fld Z h0 a1 "com/example/treegraft/treegraft/brackets/Bracket" "word" "Ljava/lang/String;" (.ref x2)) :
    MN l Z (⟨"com/example/treegraft/treegraft/brackets/Bracket", "isWord", "()Z"⟩ : MethodName) prog_6_method_4_code 1 (some .boolean) [] ({ frames := 0, cells := 0, slots := 0, locals := 0 } : Room) #[(.ref a1)] h0 [] (RP h0 (fun w => w = .int 1)) := by
  refine MN.mk (a0 := a0) rfl rfl (plainFor_of_name pn16) O (fun m => ef_rmIsW1 m a1) ?_
  intro pg ev s m below meth cd T hh X
  subst hh
  refine X.aloadN (pc' := 1) d33_0 rfl rfl rfl ?_
  refine X.getF (pc' := 4) (wd221 hw) Via.refl F d33_1 rfl ?_
  intro T X
  refine X.nullN (pc' := 7) d33_4 rfl ?_
  refine X.iconst (pc' := 8) (1 : Int32) d33_7 rfl rfl ?_
  refine X.goto (pc' := 12) d33_8 (by decide) (by decide) ?_
  exact X.retIN (by simp) rfl d33_12 (by decide) (by decide) ⟨_, rfl, rfl, rfl⟩
set_option maxRecDepth 65536 in
set_option maxHeartbeats 40000000 in
theorem ef_rmWord (m : MethodId) (a1 : Addr) : entryFrame m #[(.ref a1)] 1 = mkF m 0 #[.val (.ref a1)] [] := by first | (simp [entryFrame, mkF, argsToLocals, Value.category]; done) | (rfl)
set_option maxRecDepth 65536 in
set_option maxHeartbeats 40000000 in
theorem rmWord (l : Launch) (Z : State) (a0 : Array Value) (hw : ∀ d ∈ tables_1, d.before a0 Z = true) (a1 : Addr) (h0 : Heap) (O : Ext Z.heap h0) (v : Value) (hv : v.isRef = true) (F : Fld Z h0 a1 "com/example/treegraft/treegraft/brackets/Bracket" "word" "Ljava/lang/String;" v) :
    MN l Z (⟨"com/example/treegraft/treegraft/brackets/Bracket", "word", "()Ljava/lang/String;"⟩ : MethodName) prog_6_method_11_code 1 (some (.object "java/lang/String")) [] ({ frames := 0, cells := 0, slots := 0, locals := 0 } : Room) #[(.ref a1)] h0 [] (RP h0 (fun w => w = v)) := by
  refine MN.mk (a0 := a0) rfl rfl (plainFor_of_name pn16) O (fun m => ef_rmWord m a1) ?_
  intro pg ev s m below meth cd T hh X
  subst hh
  refine X.aloadN (pc' := 1) d34_0 rfl rfl rfl ?_
  refine X.getF (pc' := 4) (wd221 hw) Via.refl F d34_1 rfl ?_
  intro T X
  exact X.retAN rfl hv d34_4 (by decide) (by decide) ⟨_, rfl, rfl, rfl⟩
set_option maxRecDepth 65536 in
set_option maxHeartbeats 40000000 in
theorem ef_rmCh (m : MethodId) (a1 : Addr) : entryFrame m #[(.ref a1)] 1 = mkF m 0 #[.val (.ref a1)] [] := by first | (simp [entryFrame, mkF, argsToLocals, Value.category]; done) | (rfl)
set_option maxRecDepth 65536 in
set_option maxHeartbeats 40000000 in
theorem rmCh (l : Launch) (Z : State) (a0 : Array Value) (hw : ∀ d ∈ tables_1, d.before a0 Z = true) (a1 : Addr) (h0 : Heap) (O : Ext Z.heap h0) (v : Value) (hv : v.isRef = true) (F : Fld Z h0 a1 "com/example/treegraft/treegraft/brackets/Bracket" "children" "Ljava/util/List;" v) :
    MN l Z (⟨"com/example/treegraft/treegraft/brackets/Bracket", "children", "()Ljava/util/List;"⟩ : MethodName) prog_6_method_12_code 1 (some (.object "java/util/List")) [] ({ frames := 0, cells := 0, slots := 0, locals := 0 } : Room) #[(.ref a1)] h0 [] (RP h0 (fun w => w = v)) := by
  refine MN.mk (a0 := a0) rfl rfl (plainFor_of_name pn16) O (fun m => ef_rmCh m a1) ?_
  intro pg ev s m below meth cd T hh X
  subst hh
  refine X.aloadN (pc' := 1) d35_0 rfl rfl rfl ?_
  refine X.getF (pc' := 4) (wd223 hw) Via.refl F d35_1 rfl ?_
  intro T X
  exact X.retAN rfl hv d35_4 (by decide) (by decide) ⟨_, rfl, rfl, rfl⟩
set_option maxRecDepth 65536 in
set_option maxHeartbeats 40000000 in
theorem ef_rmLine (m : MethodId) (a1 : Addr) : entryFrame m #[(.ref a1)] 1 = mkF m 0 #[.val (.ref a1)] [] := by first | (simp [entryFrame, mkF, argsToLocals, Value.category]; done) | (rfl)
set_option maxRecDepth 65536 in
set_option maxHeartbeats 40000000 in
theorem rmLine (l : Launch) (Z : State) (a0 : Array Value) (hw : ∀ d ∈ tables_1, d.before a0 Z = true) (a1 : Addr) (h0 : Heap) (O : Ext Z.heap h0) (v : Int32) (hv : narrow .int (.int v) = .int v) (F : Fld Z h0 a1 "com/example/treegraft/treegraft/brackets/Bracket" "line" "I" (.int v)) :
    MN l Z (⟨"com/example/treegraft/treegraft/brackets/Bracket", "line", "()I"⟩ : MethodName) prog_6_method_13_code 1 (some .int) [] ({ frames := 0, cells := 0, slots := 0, locals := 0 } : Room) #[(.ref a1)] h0 [] (RP h0 (fun w => w = .int v)) := by
  refine MN.mk (a0 := a0) rfl rfl (plainFor_of_name pn16) O (fun m => ef_rmLine m a1) ?_
  intro pg ev s m below meth cd T hh X
  subst hh
  refine X.aloadN (pc' := 1) d36_0 rfl rfl rfl ?_
  refine X.getF (pc' := 4) (wd225 hw) Via.refl F d36_1 rfl ?_
  intro T X
  exact X.retIN (by simp) hv d36_4 (by decide) (by decide) ⟨_, rfl, rfl, rfl⟩
set_option maxRecDepth 65536 in
set_option maxHeartbeats 40000000 in
theorem ef_rm0 (m : MethodId) (p1 : Int32) (p2 : Int32) (p3 : Int32) (p4 : Int32) : entryFrame m #[(.int p1), (.int p2), (.int p3), (.int p4)] maxLocals = mkF m 0 #[.val (.int p1), .val (.int p2), .val (.int p3), .val (.int p4), .unset, .unset, .unset, .unset, .unset, .unset, .unset, .unset] [] := by first | (simp [entryFrame, mkF, argsToLocals, Value.category, maxLocals]; done) | (rfl)
set_option maxRecDepth 65536 in
set_option maxHeartbeats 40000000 in
theorem rm0 (l : Launch) (Z : State) (a0 : Array Value) (hw : ∀ d ∈ tables_1, d.before a0 Z = true) (ew : EW Z a0 consts_1) (p1 : Int32) (p2 : Int32) (p3 : Int32) (p4 : Int32) (h0 : Heap) (O : Ext Z.heap h0) (z : Int32) (O2 : Sta Z Z.heap "java/lang/String" "COMPACT_STRINGS" "Z" (.int z)) (hz : ¬ z = 0) (d0 : Addr) (SD : Sta Z Z.heap "java/util/ArrayList" "DEFAULTCAPACITY_EMPTY_ELEMENTDATA" "[Ljava/lang/Object;" (.ref d0)) (VD : Emp Z Z.heap d0) (eo : Addr) (SE : Sta Z Z.heap "java/util/ImmutableCollections" "EMPTY_LIST" "Ljava/util/ImmutableCollections$ListN;" (.ref eo)) (E_eo : Exa Z Z.heap eo "java/util/ImmutableCollections$ListN") (el : Addr) (FE : Fld Z Z.heap eo "java/util/ImmutableCollections$ListN" "elements" "[Ljava/lang/Object;" (.ref el)) (VE : Emp Z Z.heap el) (mo : Addr) (M_o : Mrr Z "[Ljava/lang/Object;" mo) (ma : Addr) (M_a : Mrr Z "java/util/ArrayList" ma) (mu : Addr) (M_u : Mrr Z "java/util/Collections$UnmodifiableList" mu) (mr : Addr) (M_r : Mrr Z "java/util/Collections$UnmodifiableRandomAccessList" mr) :
    MCc l Z consts_1 x code maxLocals ret tables_1 room_1 #[(.int p1), (.int p2), (.int p3), (.int p4)] h0 [] (RV (fun w h => w = .int 1)) := by
  refine MCc.mk (a0 := a0) rfl rfl (plainFor_of_name pn17) O ew (fun m => ef_rm0 m p1 p2 p3 p4) ?_
  intro pg ev s m below meth cd T hh X
  subst hh
  have hws : ∀ d ∈ StrChars.Road.words, d.before a0 Z = true := fun d hd => hw d ((by decide +kernel : ∀ d ∈ StrChars.Road.words, d ∈ tables_1) d hd)
  refine X.iloadN (pc' := 1) at_0 rfl rfl ?_
  refine X.iconst (pc' := 2) (1 : Int32) at_1 rfl rfl ?_
  refine X.iand (pc' := 3) at_2 rfl ?_
  by_cases hq0 : (p1 &&& (1 : Int32)) = 0
  · refine X.ifY (pc' := 10) at_3 ((if0 _ _).trans (teq hq0).1) (by decide) (by decide) ?_
    refine X.iconst (pc' := 11) (0 : Int32) at_10 rfl rfl ?_
    refine X.istore (pc' := 13) #[.val (.int p1), .val (.int p2), .val (.int p3), .val (.int p4), .val (.int (0 : Int32)), .unset, .unset, .unset, .unset, .unset, .unset, .unset] at_11 rfl rfl ?_
    refine X.iloadN (pc' := 14) at_13 rfl rfl ?_
    refine X.iconst (pc' := 15) (2 : Int32) at_14 rfl rfl ?_
    refine X.iand (pc' := 16) at_15 rfl ?_
    by_cases hq1 : (p1 &&& (2 : Int32)) = 0
    · refine X.ifY (pc' := 23) at_16 ((if0 _ _).trans (teq hq1).1) (by decide) (by decide) ?_
      refine X.iconst (pc' := 24) (0 : Int32) at_23 rfl rfl ?_
      refine X.istore (pc' := 26) #[.val (.int p1), .val (.int p2), .val (.int p3), .val (.int p4), .val (.int (0 : Int32)), .val (.int (0 : Int32)), .unset, .unset, .unset, .unset, .unset, .unset] at_24 rfl rfl ?_
      refine X.iloadN (pc' := 27) at_26 rfl rfl ?_
      refine X.iconst (pc' := 28) (4 : Int32) at_27 rfl rfl ?_
      refine X.iand (pc' := 29) at_28 rfl ?_
      by_cases hq2 : (p1 &&& (4 : Int32)) = 0
      · refine X.ifY (pc' := 36) at_29 ((if0 _ _).trans (teq hq2).1) (by decide) (by decide) ?_
        refine X.iconst (pc' := 37) (0 : Int32) at_36 rfl rfl ?_
        refine X.istore (pc' := 39) #[.val (.int p1), .val (.int p2), .val (.int p3), .val (.int p4), .val (.int (0 : Int32)), .val (.int (0 : Int32)), .val (.int (0 : Int32)), .unset, .unset, .unset, .unset, .unset] at_37 rfl rfl ?_
        refine X.iloadN (pc' := 40) at_39 rfl rfl ?_
        refine X.sipush (pc' := 43) (255 : Int32) at_40 rfl rfl ?_
        refine X.iand (pc' := 44) at_43 rfl ?_
        refine X.i2c (pc' := 45) at_44 rfl ?_
        generalize hc_c7 : ((p2 &&& (255 : Int32)).toUInt32.toUInt16.toUInt32.toInt32) = c7
        have r_c7 := chr255 hc_c7
        refine X.callV (pc' := 48) (X.sStatic (wd0 hw) (wd1 hw) (wd2 hw) (wd3 hw) (by decide) rfl pd16 [(.int c7)] rfl rfl at_45) (rmVOf l Z a0 hw c7 _ X.old z O2 hz r_c7.1) (wd3 hw) (wd2 hw) (leB rfl) (leB rfl) (leB rfl) (leB rfl) sf0 all0 all0 rfl ?_
        intro T h L v X K q
        obtain ⟨x7, rfl, le_x7, S_x7⟩ := q
        have lt_x7 := S_x7.lt
        refine X.astore (pc' := 50) #[.val (.int p1), .val (.int p2), .val (.int p3), .val (.int p4), .val (.int (0 : Int32)), .val (.int (0 : Int32)), .val (.int (0 : Int32)), .val (.ref x7), .unset, .unset, .unset, .unset] at_48 rfl rfl rfl ?_
        refine X.iload (pc' := 52) at_50 rfl rfl ?_
        refine X.ifY (pc' := 70) at_52 (by decide) (by decide) (by decide) ?_
        refine X.iconst (pc' := 71) (2 : Int32) at_70 rfl rfl ?_
        refine X.newP (pc' := 73) (aty := .char) (wd26 hw) at_71 (by decide) 2 (by decide) (by decide) (by decide) (by decide) rfl ?_
        intro T h b8 ka_b8 g_b8 Ex lt_b8 V_b8 X1
        have z_b8 : Z.heap.size ≤ b8 := by rw [g_b8]; exact X.old.1
        have s_b8 : s.heap.size ≤ b8 := by rw [g_b8]; exact X.kp.1
        have ne_x7_b8 : x7 ≠ b8 := Nat.ne_of_lt (by rw [g_b8]; exact lt_x7)
        replace S_x7 := S_x7.ext Ex
        replace lt_x7 := Nat.lt_of_lt_of_le lt_x7 Ex.1
        replace X := X1
        replace V_b8 : Arv Z h b8 ka_b8 .char (2 : Int32) [(.int (0 : Int32)), (.int (0 : Int32))] (.int (0 : Int32)) := (Arv.pad V_b8 (pad_rep [] (.int (0 : Int32)) 2))
        refine X.astore (pc' := 75) #[.val (.int p1), .val (.int p2), .val (.int p3), .val (.int p4), .val (.int (0 : Int32)), .val (.int (0 : Int32)), .val (.int (0 : Int32)), .val (.ref x7), .unset, .val (.ref b8), .unset, .unset] at_73 rfl rfl rfl ?_
        refine X.aload (pc' := 77) at_75 rfl rfl rfl ?_
        refine X.iconst (pc' := 78) (0 : Int32) at_77 rfl rfl ?_
        refine X.iloadN (pc' := 79) at_78 rfl rfl ?_
        refine X.bipush (pc' := 81) (8 : Int32) at_79 rfl rfl ?_
        refine X.iushr (pc' := 82) at_81 rfl ?_
        refine X.sipush (pc' := 85) (255 : Int32) at_82 rfl rfl ?_
        refine X.iand (pc' := 86) at_85 rfl ?_
        refine X.i2c (pc' := 87) at_86 rfl ?_
        generalize hc_k0 : ((((p2.toUInt32 >>> ((8 : Int32) &&& 31).toUInt32).toInt32) &&& (255 : Int32)).toUInt32.toUInt16.toUInt32.toInt32) = k0
        have r_k0 := chr255 hc_k0
        refine X.castore (pc' := 88) V_b8 ⟨by decide, by decide⟩ 0 rfl (Nat.le_of_ble_eq_true rfl) z_b8 (Or.inr s_b8) at_87 rfl ?_
        intro T h L X W V1
        rw [r_k0.2] at V1
        have V0 := V_b8
        replace S_x7 := S_x7.wrA W V0 (by decide) (wd10 hw)
        replace lt_x7 := Nat.lt_of_lt_of_le lt_x7 (Keep.of_wr W).1
        replace lt_b8 := Nat.lt_of_lt_of_le lt_b8 (Keep.of_wr W).1
        replace V_b8 : Arv Z h b8 ka_b8 .char (2 : Int32) [(.int k0), (.int (0 : Int32))] (.int (0 : Int32)) := V1
        refine X.aload (pc' := 90) at_88 rfl rfl rfl ?_
        refine X.iconst (pc' := 91) (1 : Int32) at_90 rfl rfl ?_
        refine X.iloadN (pc' := 92) at_91 rfl rfl ?_
        refine X.sipush (pc' := 95) (255 : Int32) at_92 rfl rfl ?_
        refine X.iand (pc' := 96) at_95 rfl ?_
        refine X.i2c (pc' := 97) at_96 rfl ?_
        generalize hc_k1 : ((p3 &&& (255 : Int32)).toUInt32.toUInt16.toUInt32.toInt32) = k1
        have r_k1 := chr255 hc_k1
        refine X.castore (pc' := 98) V_b8 ⟨by decide, by decide⟩ 1 rfl (Nat.le_of_ble_eq_true rfl) z_b8 (Or.inr s_b8) at_97 rfl ?_
        intro T h L X W V1
        rw [r_k1.2] at V1
        have V0 := V_b8
        replace S_x7 := S_x7.wrA W V0 (by decide) (wd10 hw)
        replace lt_x7 := Nat.lt_of_lt_of_le lt_x7 (Keep.of_wr W).1
        replace lt_b8 := Nat.lt_of_lt_of_le lt_b8 (Keep.of_wr W).1
        replace V_b8 : Arv Z h b8 ka_b8 .char (2 : Int32) [(.int k0), (.int k1)] (.int (0 : Int32)) := V1
        refine X.newO (pc' := 101) (wd27 hw) (wd10 hw) (wd2 hw) at_98 (by decide) (by decide) rfl ?_
        intro T h x8 g_x8 Ex lt_x8 E_x8 D_x8 X1
        have z_x8 : Z.heap.size ≤ x8 := by rw [g_x8]; exact X.old.1
        have s_x8 : s.heap.size ≤ x8 := by rw [g_x8]; exact X.kp.1
        have ne_x7_x8 : x7 ≠ x8 := Nat.ne_of_lt (by rw [g_x8]; exact lt_x7)
        have ne_b8_x8 : b8 ≠ x8 := Nat.ne_of_lt (by rw [g_x8]; exact lt_b8)
        replace S_x7 := S_x7.ext Ex
        replace lt_x7 := Nat.lt_of_lt_of_le lt_x7 Ex.1
        replace V_b8 := V_b8.ext Ex
        replace lt_b8 := Nat.lt_of_lt_of_le lt_b8 Ex.1
        replace X := X1
        have F_x8_value : Fld Z h x8 "java/lang/String" "value" "[B" .null := D_x8 (Or.inr (wd23 hw)) (ty := (.array .byte)) (by decide)
        have F_x8_coder : Fld Z h x8 "java/lang/String" "coder" "B" (.int (0 : Int32)) := D_x8 (Or.inr (wd25 hw)) (ty := .byte) (by decide)
        refine X.dup (pc' := 102) at_101 rfl rfl ?_
        refine X.aload (pc' := 104) at_102 rfl rfl rfl ?_
        refine X.newStr (pc' := 107) (cs := [k0, k1]) (n := 2) (X.sSpecial rfl (wd28 hw) (wd29 hw) (wd30 hw) (by decide) rfl pd17 [(.ref b8)] rfl rfl at_104) hws (wd10 hw) E_x8 F_x8_value F_x8_coder V_b8 O2 hz rfl rfl (by decide) (by decide) (allC r_k0.1 (all1 r_k1.1)) (leB rfl) (leB rfl) (leB rfl) (leB rfl) z_x8 (Or.inr s_x8) rfl ?_
        intro T h L X K S_x8
        have Ob1 := (obj E_x8 (wd10 hw))
        replace S_x7 := S_x7.keep1 K ne_x7_x8 Ob1
        replace lt_x7 := Nat.lt_of_lt_of_le lt_x7 K.1
        replace V_b8 := V_b8.keep K (ninS ne_b8_x8 nin0)
        replace lt_b8 := Nat.lt_of_lt_of_le lt_b8 K.1
        replace E_x8 := E_x8.keep K
        replace lt_x8 := Nat.lt_of_lt_of_le lt_x8 K.1
        refine X.astore (pc' := 109) #[.val (.int p1), .val (.int p2), .val (.int p3), .val (.int p4), .val (.int (0 : Int32)), .val (.int (0 : Int32)), .val (.int (0 : Int32)), .val (.ref x7), .val (.ref x8), .val (.ref b8), .unset, .unset] at_107 rfl rfl rfl ?_
        refine X.newO (pc' := 112) (wd44 hw) (wd45 hw) (wd46 hw) at_109 (by decide) (by decide) rfl ?_
        intro T h al g_al Ex lt_al E_al D_al X1
        have z_al : Z.heap.size ≤ al := by rw [g_al]; exact X.old.1
        have s_al : s.heap.size ≤ al := by rw [g_al]; exact X.kp.1
        have ne_x7_al : x7 ≠ al := Nat.ne_of_lt (by rw [g_al]; exact lt_x7)
        have ne_x8_al : x8 ≠ al := Nat.ne_of_lt (by rw [g_al]; exact lt_x8)
        replace lt_x7 := Nat.lt_of_lt_of_le lt_x7 Ex.1
        replace lt_x8 := Nat.lt_of_lt_of_le lt_x8 Ex.1
        replace S_x8 := S_x8.ext Ex
        replace X := X1
        have F_al_elementData : Fld Z h al "java/util/ArrayList" "elementData" "[Ljava/lang/Object;" .null := D_al (Or.inl (wd67 hw)) (ty := (.array (.object "java/lang/Object"))) (by decide)
        have F_al_size : Fld Z h al "java/util/ArrayList" "size" "I" (.int (0 : Int32)) := D_al (Or.inl (wd92 hw)) (ty := .int) (by decide)
        have F_al_modCount : Fld Z h al "java/util/AbstractList" "modCount" "I" (.int (0 : Int32)) := D_al (Or.inl (wd64 hw)) (ty := .int) (by decide)
        refine X.dup (pc' := 113) at_112 rfl rfl ?_
        refine X.callU (pc' := 116) (X.sSpecial rfl (wd47 hw) (wd48 hw) (wd49 hw) (by decide) rfl pd4 [] rfl rfl at_113) (rmALI l Z a0 hw al _ X.old d0 SD VD z_al ⟨E_al, F_al_elementData, F_al_size, F_al_modCount⟩) (wd49 hw) (wd46 hw) (leB rfl) (leB rfl) (leB rfl) (leB rfl) (sfS (Safe.exa X.al E_al (by decide) (by decide)) sf0) (allS z_al all0) (allS (Or.inr s_al) all0) rfl ?_
        intro T h L X K A_al
        have Ob1 := (obj E_al (wd45 hw))
        replace lt_x7 := Nat.lt_of_lt_of_le lt_x7 K.1
        replace lt_x8 := Nat.lt_of_lt_of_le lt_x8 K.1
        replace S_x8 := S_x8.keep1 K ne_x8_al Ob1
        replace E_al := E_al.keep K
        replace lt_al := Nat.lt_of_lt_of_le lt_al K.1
        refine X.astore (pc' := 118) #[.val (.int p1), .val (.int p2), .val (.int p3), .val (.int p4), .val (.int (0 : Int32)), .val (.int (0 : Int32)), .val (.int (0 : Int32)), .val (.ref x7), .val (.ref x8), .val (.ref al), .unset, .unset] at_116 rfl rfl rfl ?_
        refine X.iload (pc' := 120) at_118 rfl rfl ?_
        refine X.ifN (pc' := 123) at_120 (by decide) rfl ?_
        refine X.aload (pc' := 125) at_123 rfl rfl rfl ?_
        refine X.newO (pc' := 128) (wd68 hw) (wd69 hw) (wd70 hw) at_125 (by decide) (by decide) rfl ?_
        intro T h e0 g_e0 Ex lt_e0 E_e0 D_e0 X1
        have z_e0 : Z.heap.size ≤ e0 := by rw [g_e0]; exact X.old.1
        have s_e0 : s.heap.size ≤ e0 := by rw [g_e0]; exact X.kp.1
        have ne_x7_e0 : x7 ≠ e0 := Nat.ne_of_lt (by rw [g_e0]; exact lt_x7)
        have ne_x8_e0 : x8 ≠ e0 := Nat.ne_of_lt (by rw [g_e0]; exact lt_x8)
        have ne_al_e0 : al ≠ e0 := Nat.ne_of_lt (by rw [g_e0]; exact lt_al)
        replace lt_x7 := Nat.lt_of_lt_of_le lt_x7 Ex.1
        replace lt_x8 := Nat.lt_of_lt_of_le lt_x8 Ex.1
        replace S_x8 := S_x8.ext Ex
        replace lt_al := Nat.lt_of_lt_of_le lt_al Ex.1
        replace A_al := A_al.ext Ex
        replace X := X1
        have F_e0_text : Fld Z h e0 "com/example/treegraft/treegraft/brackets/Atom" "text" "Ljava/lang/String;" .null := D_e0 (Or.inr (wd81 hw)) (ty := (.object "java/lang/String")) (by decide)
        have F_e0_line : Fld Z h e0 "com/example/treegraft/treegraft/brackets/Atom" "line" "I" (.int (0 : Int32)) := D_e0 (Or.inr (wd83 hw)) (ty := .int) (by decide)
        refine X.dup (pc' := 129) at_128 rfl rfl ?_
        refine X.iloadN (pc' := 130) at_129 rfl rfl ?_
        refine X.bipush (pc' := 132) (8 : Int32) at_130 rfl rfl ?_
        refine X.iushr (pc' := 133) at_132 rfl ?_
        refine X.sipush (pc' := 136) (255 : Int32) at_133 rfl rfl ?_
        refine X.iand (pc' := 137) at_136 rfl ?_
        refine X.i2c (pc' := 138) at_137 rfl ?_
        generalize hc_q0 : ((((p3.toUInt32 >>> ((8 : Int32) &&& 31).toUInt32).toInt32) &&& (255 : Int32)).toUInt32.toUInt16.toUInt32.toInt32) = q0
        have r_q0 := chr255 hc_q0
        refine X.callV (pc' := 141) (X.sStatic (wd0 hw) (wd1 hw) (wd2 hw) (wd3 hw) (by decide) rfl pd16 [(.int q0)] rfl rfl at_138) (rmVOf l Z a0 hw q0 _ X.old z O2 hz r_q0.1) (wd3 hw) (wd2 hw) (leB rfl) (leB rfl) (leB rfl) (leB rfl) sf0 all0 all0 rfl ?_
        intro T h L v X K q
        obtain ⟨se0, rfl, le_se0, S_se0⟩ := q
        replace lt_x7 := Nat.lt_of_lt_of_le lt_x7 K.1
        replace lt_x8 := Nat.lt_of_lt_of_le lt_x8 K.1
        replace S_x8 := S_x8.keep0 K
        replace lt_al := Nat.lt_of_lt_of_le lt_al K.1
        replace A_al := A_al.keep K nin0
        replace E_e0 := E_e0.keep K
        replace lt_e0 := Nat.lt_of_lt_of_le lt_e0 K.1
        replace F_e0_text := F_e0_text.keep K nin0
        replace F_e0_line := F_e0_line.keep K nin0
        have lt_se0 := S_se0.lt
        refine X.iloadN (pc' := 142) at_141 rfl rfl ?_
        refine X.callU (pc' := 145) (X.sSpecial rfl (wd71 hw) (wd72 hw) (wd73 hw) (by decide) rfl pd18 [(.ref se0), (.int p4)] rfl rfl at_142) (rmAtom l Z a0 hw e0 (.ref se0) rfl p4 _ X.old  z_e0 E_e0 F_e0_text F_e0_line) (wd73 hw) (wd70 hw) (leB rfl) (leB rfl) (leB rfl) (leB rfl) (sfS (Safe.exa X.al E_e0 (by decide) (by decide)) sf0) (allS z_e0 all0) (allS (Or.inr s_e0) all0) rfl ?_
        intro T h L X K q
        have Ob1 := (obj E_e0 (wd69 hw))
        replace lt_x7 := Nat.lt_of_lt_of_le lt_x7 K.1
        replace lt_x8 := Nat.lt_of_lt_of_le lt_x8 K.1
        replace S_x8 := S_x8.keep1 K ne_x8_e0 Ob1
        replace lt_al := Nat.lt_of_lt_of_le lt_al K.1
        replace A_al := A_al.keep K (ninS ne_al_e0 nin0)
        replace E_e0 := E_e0.keep K
        replace lt_e0 := Nat.lt_of_lt_of_le lt_e0 K.1
        replace lt_se0 := Nat.lt_of_lt_of_le lt_se0 K.1
        obtain ⟨_, F_e0_text, F_e0_line⟩ := q
        have zo := X.old.1
        have so := X.kp.1
        refine X.callV (pc' := 148) (X.sVirtual (wd84 hw) (wd85 hw) (wd87 hw) (wd86 hw) (by decide) rfl pd19 A_al.1 [(.ref e0)] rfl rfl at_145 (X.nf (wd87 hw) rfl)) (rmAddF l Z a0 hw al e0 _ X.old d0 SD VD z_al _ A_al _ (wd114 hw) E_e0) (wd88 hw) (wd46 hw) (leB rfl) (leB rfl) (leB rfl) (leB rfl) (sfS (Safe.exa X.al A_al.1 (by decide) (by decide)) sf0) (allS z_al all0) (allS (Or.inr s_al) all0) rfl ?_
        intro T h L v X K q
        obtain ⟨rfl, ld, le_ld, A_n, V_ld⟩ := q
        have ne_x7_ld : x7 ≠ ld := Nat.ne_of_lt (Nat.lt_of_lt_of_le lt_x7 le_ld)
        have ne_x8_ld : x8 ≠ ld := Nat.ne_of_lt (Nat.lt_of_lt_of_le lt_x8 le_ld)
        have ne_al_ld : al ≠ ld := Nat.ne_of_lt (Nat.lt_of_lt_of_le lt_al le_ld)
        have ne_e0_ld : e0 ≠ ld := Nat.ne_of_lt (Nat.lt_of_lt_of_le lt_e0 le_ld)
        have ne_se0_ld : se0 ≠ ld := Nat.ne_of_lt (Nat.lt_of_lt_of_le lt_se0 le_ld)
        have z_ld := Nat.le_trans zo le_ld
        have s_ld := Nat.le_trans so le_ld
        have Ob1 := (obj A_al.1 (wd45 hw))
        replace lt_x7 := Nat.lt_of_lt_of_le lt_x7 K.1
        replace lt_x8 := Nat.lt_of_lt_of_le lt_x8 K.1
        replace S_x8 := S_x8.keep1 K ne_x8_al Ob1
        replace lt_al := Nat.lt_of_lt_of_le lt_al K.1
        replace E_e0 := E_e0.keep K
        replace lt_e0 := Nat.lt_of_lt_of_le lt_e0 K.1
        replace lt_se0 := Nat.lt_of_lt_of_le lt_se0 K.1
        replace A_al := A_n
        have lt_ld := V_ld.lt
        refine X.pop (pc' := 149) at_148 rfl rfl ?_
        refine X.iload (pc' := 151) at_149 rfl rfl ?_
        refine X.ifY (pc' := 180) at_151 (by decide) (by decide) (by decide) ?_
        refine X.newO (pc' := 183) (wd115 hw) (wd116 hw) (wd117 hw) at_180 (by decide) (by decide) rfl ?_
        intro T h br g_br Ex lt_br E_br D_br X1
        have z_br : Z.heap.size ≤ br := by rw [g_br]; exact X.old.1
        have s_br : s.heap.size ≤ br := by rw [g_br]; exact X.kp.1
        have ne_x7_br : x7 ≠ br := Nat.ne_of_lt (by rw [g_br]; exact lt_x7)
        have ne_x8_br : x8 ≠ br := Nat.ne_of_lt (by rw [g_br]; exact lt_x8)
        have ne_al_br : al ≠ br := Nat.ne_of_lt (by rw [g_br]; exact lt_al)
        have ne_e0_br : e0 ≠ br := Nat.ne_of_lt (by rw [g_br]; exact lt_e0)
        have ne_se0_br : se0 ≠ br := Nat.ne_of_lt (by rw [g_br]; exact lt_se0)
        have ne_ld_br : ld ≠ br := Nat.ne_of_lt (by rw [g_br]; exact lt_ld)
        replace lt_x7 := Nat.lt_of_lt_of_le lt_x7 Ex.1
        replace lt_x8 := Nat.lt_of_lt_of_le lt_x8 Ex.1
        replace lt_al := Nat.lt_of_lt_of_le lt_al Ex.1
        replace E_e0 := E_e0.ext Ex
        replace lt_e0 := Nat.lt_of_lt_of_le lt_e0 Ex.1
        replace lt_se0 := Nat.lt_of_lt_of_le lt_se0 Ex.1
        replace A_al := A_al.ext Ex
        replace V_ld := V_ld.ext Ex
        replace lt_ld := Nat.lt_of_lt_of_le lt_ld Ex.1
        replace X := X1
        have F_br_label : Fld Z h br "com/example/treegraft/treegraft/brackets/Bracket" "label" "Ljava/lang/String;" .null := D_br (Or.inr (wd220 hw)) (ty := (.object "java/lang/String")) (by decide)
        have F_br_word : Fld Z h br "com/example/treegraft/treegraft/brackets/Bracket" "word" "Ljava/lang/String;" .null := D_br (Or.inr (wd222 hw)) (ty := (.object "java/lang/String")) (by decide)
        have F_br_children : Fld Z h br "com/example/treegraft/treegraft/brackets/Bracket" "children" "Ljava/util/List;" .null := D_br (Or.inr (wd224 hw)) (ty := (.object "java/util/List")) (by decide)
        have F_br_line : Fld Z h br "com/example/treegraft/treegraft/brackets/Bracket" "line" "I" (.int (0 : Int32)) := D_br (Or.inr (wd226 hw)) (ty := .int) (by decide)
        refine X.dup (pc' := 184) at_183 rfl rfl ?_
        refine X.aload (pc' := 186) at_184 rfl rfl rfl ?_
        refine X.iload (pc' := 188) at_186 rfl rfl ?_
        refine X.ifY (pc' := 196) at_188 (by decide) (by decide) (by decide) ?_
        refine X.aconstNull (pc' := 197) at_196 rfl ?_
        refine X.aload (pc' := 199) at_197 rfl rfl rfl ?_
        refine X.iloadN (pc' := 200) at_199 rfl rfl ?_
        refine X.callU (pc' := 203) (X.sSpecial rfl (wd118 hw) (wd119 hw) (wd120 hw) (by decide) rfl pd20 [(.ref x7), .null, (.ref al), (.int p4)] rfl rfl at_200) (rmBrN1 l Z a0 hw br (.ref x7) rfl al p4 _ X.old mo M_o ma M_a mu M_u mr M_r z_br E_br F_br_label F_br_word F_br_children F_br_line ld ne_al_br ne_ld_br _ A_al e0 _ (wd114 hw) E_e0 V_ld) (wd120 hw) (wd117 hw) (leB rfl) (leB rfl) (leB rfl) (leB rfl) (sfS (Safe.exa X.al E_br (by decide) (by decide)) sf0) (allS z_br all0) (allS (Or.inr s_br) all0) rfl ?_
        intro T h L X K q
        obtain ⟨u, nl, r, E_br, F_br_label, F_br_word, F_br_children, F_br_line, U, A_nl⟩ := q
        refine X.astore (pc' := 205) #[.val (.int p1), .val (.int p2), .val (.int p3), .val (.int p4), .val (.int (0 : Int32)), .val (.int (0 : Int32)), .val (.int (0 : Int32)), .val (.ref x7), .val (.ref x8), .val (.ref al), .val (.ref br), .unset] at_203 rfl rfl rfl ?_
        refine X.aload (pc' := 207) at_205 rfl rfl rfl ?_
        refine X.callP (pc' := 210) (X.sVirtual (wd227 hw) (wd228 hw) (wd230 hw) (wd229 hw) (by decide) rfl pd13 E_br [] rfl rfl at_207 (X.nf (wd230 hw) rfl)) (rmIsW0 l Z a0 hw br _ X.old F_br_word) (wd231 hw) (wd117 hw) (leB rfl) (leB rfl) (leB rfl) (leB rfl) rfl ?_
        intro T L v X q
        subst q
        refine X.istore (pc' := 212) #[.val (.int p1), .val (.int p2), .val (.int p3), .val (.int p4), .val (.int (0 : Int32)), .val (.int (0 : Int32)), .val (.int (0 : Int32)), .val (.ref x7), .val (.ref x8), .val (.ref al), .val (.ref br), .val (.int (0 : Int32))] at_210 rfl rfl ?_
        refine X.iload (pc' := 214) at_212 rfl rfl ?_
        refine X.iload (pc' := 216) at_214 rfl rfl ?_
        refine X.icN (pc' := 219) at_216 (by decide) rfl ?_
        refine X.iload (pc' := 221) at_219 rfl rfl ?_
        refine X.aload (pc' := 223) at_221 rfl rfl rfl ?_
        refine X.callP (pc' := 226) (X.sVirtual (wd232 hw) (wd233 hw) (wd235 hw) (wd234 hw) (by decide) rfl pd21 E_br [] rfl rfl at_223 (X.nf (wd230 hw) rfl)) (rmWord l Z a0 hw br _ X.old .null rfl F_br_word) (wd236 hw) (wd117 hw) (leB rfl) (leB rfl) (leB rfl) (leB rfl) rfl ?_
        intro T L v X q
        subst q
        refine X.nullY (pc' := 233) at_226 (by decide) (by decide) ?_
        refine X.iconst (pc' := 234) (0 : Int32) at_233 rfl rfl ?_
        refine X.icN (pc' := 237) at_234 (by decide) rfl ?_
        refine X.iload (pc' := 239) at_237 rfl rfl ?_
        refine X.aload (pc' := 241) at_239 rfl rfl rfl ?_
        refine X.callP (pc' := 244) (X.sVirtual (wd237 hw) (wd238 hw) (wd240 hw) (wd239 hw) (by decide) rfl pd14 E_br [] rfl rfl at_241 (X.nf (wd230 hw) rfl)) (rmCh l Z a0 hw br _ X.old (.ref u) rfl F_br_children) (wd241 hw) (wd117 hw) (leB rfl) (leB rfl) (leB rfl) (leB rfl) rfl ?_
        intro T L v X q
        subst q
        rcases U with hu | hu
        · have A_u : AL Z h u (.ref r) (1 : Int32) 0 := by rw [hu]; exact A_nl
          refine X.callP (pc' := 249) (X.sFace (y := (⟨"java/util/ArrayList", "isEmpty", "()Z"⟩ : MethodName)) (wd242 hw) (wd123 hw) (wd124 hw) rfl (wd125 hw) (wd126 hw) (wd127 hw) (wd128 hw) (wd129 hw) (by decide) rfl pd13 A_u.1 [] rfl rfl at_244) (rmIsEN l Z a0 hw u _ X.old (1 : Int32) (by decide) _ _ A_u) (wd130 hw) (wd46 hw) (leB rfl) (leB rfl) (leB rfl) (leB rfl) rfl ?_
          intro T L v X q
          subst q
          refine X.icN (pc' := 252) at_249 (by decide) rfl ?_
          refine X.aload (pc' := 254) at_252 rfl rfl rfl ?_
          refine X.callP (pc' := 257) (X.sVirtual (wd243 hw) (wd244 hw) (wd246 hw) (wd245 hw) (by decide) rfl pd22 E_br [] rfl rfl at_254 (X.nf (wd230 hw) rfl)) (rmLine l Z a0 hw br _ X.old p4 rfl F_br_line) (wd247 hw) (wd117 hw) (leB rfl) (leB rfl) (leB rfl) (leB rfl) rfl ?_
          intro T L v X q
          subst q
          refine X.iloadN (pc' := 258) at_257 rfl rfl ?_
          refine X.icN (pc' := 261) at_258 ((teq rfl).2) rfl ?_
          refine X.iconst (pc' := 262) (1 : Int32) at_261 rfl rfl ?_
          refine X.goto (pc' := 266) at_262 (by decide) (by decide) ?_
          exact X.retIC (by simp) rfl at_266 (by decide) (by decide) ⟨_, rfl, rfl⟩
        · refine X.callP (pc' := 249) (X.sFace (y := (⟨"java/util/Collections$UnmodifiableCollection", "isEmpty", "()Z"⟩ : MethodName)) (wd242 hw) (wd123 hw) (wd124 hw) rfl (wd209 hw) (wd210 hw) (wd211 hw) (wd212 hw) (wd213 hw) (by decide) rfl pd13 hu.1 [] rfl rfl at_244) (rmUIsE l Z a0 hw u _ X.old nl _ hu (1 : Int32) (by decide) _ _ A_nl) (wd214 hw) (wd202 hw) (leB rfl) (leB rfl) (leB rfl) (leB rfl) rfl ?_
          intro T L v X q
          subst q
          refine X.icN (pc' := 252) at_249 (by decide) rfl ?_
          refine X.aload (pc' := 254) at_252 rfl rfl rfl ?_
          refine X.callP (pc' := 257) (X.sVirtual (wd243 hw) (wd244 hw) (wd246 hw) (wd245 hw) (by decide) rfl pd22 E_br [] rfl rfl at_254 (X.nf (wd230 hw) rfl)) (rmLine l Z a0 hw br _ X.old p4 rfl F_br_line) (wd247 hw) (wd117 hw) (leB rfl) (leB rfl) (leB rfl) (leB rfl) rfl ?_
          intro T L v X q
          subst q
          refine X.iloadN (pc' := 258) at_257 rfl rfl ?_
          refine X.icN (pc' := 261) at_258 ((teq rfl).2) rfl ?_
          refine X.iconst (pc' := 262) (1 : Int32) at_261 rfl rfl ?_
          refine X.goto (pc' := 266) at_262 (by decide) (by decide) ?_
          exact X.retIC (by simp) rfl at_266 (by decide) (by decide) ⟨_, rfl, rfl⟩
      · refine X.ifN (pc' := 32) at_29 ((if0 _ _).trans (feq hq2).1) rfl ?_
        refine X.iconst (pc' := 33) (1 : Int32) at_32 rfl rfl ?_
        refine X.goto (pc' := 37) at_33 (by decide) (by decide) ?_
        refine X.istore (pc' := 39) #[.val (.int p1), .val (.int p2), .val (.int p3), .val (.int p4), .val (.int (0 : Int32)), .val (.int (0 : Int32)), .val (.int (1 : Int32)), .unset, .unset, .unset, .unset, .unset] at_37 rfl rfl ?_
        refine X.iloadN (pc' := 40) at_39 rfl rfl ?_
        refine X.sipush (pc' := 43) (255 : Int32) at_40 rfl rfl ?_
        refine X.iand (pc' := 44) at_43 rfl ?_
        refine X.i2c (pc' := 45) at_44 rfl ?_
        generalize hc_c7 : ((p2 &&& (255 : Int32)).toUInt32.toUInt16.toUInt32.toInt32) = c7
        have r_c7 := chr255 hc_c7
        refine X.callV (pc' := 48) (X.sStatic (wd0 hw) (wd1 hw) (wd2 hw) (wd3 hw) (by decide) rfl pd16 [(.int c7)] rfl rfl at_45) (rmVOf l Z a0 hw c7 _ X.old z O2 hz r_c7.1) (wd3 hw) (wd2 hw) (leB rfl) (leB rfl) (leB rfl) (leB rfl) sf0 all0 all0 rfl ?_
        intro T h L v X K q
        obtain ⟨x7, rfl, le_x7, S_x7⟩ := q
        have lt_x7 := S_x7.lt
        refine X.astore (pc' := 50) #[.val (.int p1), .val (.int p2), .val (.int p3), .val (.int p4), .val (.int (0 : Int32)), .val (.int (0 : Int32)), .val (.int (1 : Int32)), .val (.ref x7), .unset, .unset, .unset, .unset] at_48 rfl rfl rfl ?_
        refine X.iload (pc' := 52) at_50 rfl rfl ?_
        refine X.ifY (pc' := 70) at_52 (by decide) (by decide) (by decide) ?_
        refine X.iconst (pc' := 71) (2 : Int32) at_70 rfl rfl ?_
        refine X.newP (pc' := 73) (aty := .char) (wd26 hw) at_71 (by decide) 2 (by decide) (by decide) (by decide) (by decide) rfl ?_
        intro T h b8 ka_b8 g_b8 Ex lt_b8 V_b8 X1
        have z_b8 : Z.heap.size ≤ b8 := by rw [g_b8]; exact X.old.1
        have s_b8 : s.heap.size ≤ b8 := by rw [g_b8]; exact X.kp.1
        have ne_x7_b8 : x7 ≠ b8 := Nat.ne_of_lt (by rw [g_b8]; exact lt_x7)
        replace S_x7 := S_x7.ext Ex
        replace lt_x7 := Nat.lt_of_lt_of_le lt_x7 Ex.1
        replace X := X1
        replace V_b8 : Arv Z h b8 ka_b8 .char (2 : Int32) [(.int (0 : Int32)), (.int (0 : Int32))] (.int (0 : Int32)) := (Arv.pad V_b8 (pad_rep [] (.int (0 : Int32)) 2))
        refine X.astore (pc' := 75) #[.val (.int p1), .val (.int p2), .val (.int p3), .val (.int p4), .val (.int (0 : Int32)), .val (.int (0 : Int32)), .val (.int (1 : Int32)), .val (.ref x7), .unset, .val (.ref b8), .unset, .unset] at_73 rfl rfl rfl ?_
        refine X.aload (pc' := 77) at_75 rfl rfl rfl ?_
        refine X.iconst (pc' := 78) (0 : Int32) at_77 rfl rfl ?_
        refine X.iloadN (pc' := 79) at_78 rfl rfl ?_
        refine X.bipush (pc' := 81) (8 : Int32) at_79 rfl rfl ?_
        refine X.iushr (pc' := 82) at_81 rfl ?_
        refine X.sipush (pc' := 85) (255 : Int32) at_82 rfl rfl ?_
        refine X.iand (pc' := 86) at_85 rfl ?_
        refine X.i2c (pc' := 87) at_86 rfl ?_
        generalize hc_k0 : ((((p2.toUInt32 >>> ((8 : Int32) &&& 31).toUInt32).toInt32) &&& (255 : Int32)).toUInt32.toUInt16.toUInt32.toInt32) = k0
        have r_k0 := chr255 hc_k0
        refine X.castore (pc' := 88) V_b8 ⟨by decide, by decide⟩ 0 rfl (Nat.le_of_ble_eq_true rfl) z_b8 (Or.inr s_b8) at_87 rfl ?_
        intro T h L X W V1
        rw [r_k0.2] at V1
        have V0 := V_b8
        replace S_x7 := S_x7.wrA W V0 (by decide) (wd10 hw)
        replace lt_x7 := Nat.lt_of_lt_of_le lt_x7 (Keep.of_wr W).1
        replace lt_b8 := Nat.lt_of_lt_of_le lt_b8 (Keep.of_wr W).1
        replace V_b8 : Arv Z h b8 ka_b8 .char (2 : Int32) [(.int k0), (.int (0 : Int32))] (.int (0 : Int32)) := V1
        refine X.aload (pc' := 90) at_88 rfl rfl rfl ?_
        refine X.iconst (pc' := 91) (1 : Int32) at_90 rfl rfl ?_
        refine X.iloadN (pc' := 92) at_91 rfl rfl ?_
        refine X.sipush (pc' := 95) (255 : Int32) at_92 rfl rfl ?_
        refine X.iand (pc' := 96) at_95 rfl ?_
        refine X.i2c (pc' := 97) at_96 rfl ?_
        generalize hc_k1 : ((p3 &&& (255 : Int32)).toUInt32.toUInt16.toUInt32.toInt32) = k1
        have r_k1 := chr255 hc_k1
        refine X.castore (pc' := 98) V_b8 ⟨by decide, by decide⟩ 1 rfl (Nat.le_of_ble_eq_true rfl) z_b8 (Or.inr s_b8) at_97 rfl ?_
        intro T h L X W V1
        rw [r_k1.2] at V1
        have V0 := V_b8
        replace S_x7 := S_x7.wrA W V0 (by decide) (wd10 hw)
        replace lt_x7 := Nat.lt_of_lt_of_le lt_x7 (Keep.of_wr W).1
        replace lt_b8 := Nat.lt_of_lt_of_le lt_b8 (Keep.of_wr W).1
        replace V_b8 : Arv Z h b8 ka_b8 .char (2 : Int32) [(.int k0), (.int k1)] (.int (0 : Int32)) := V1
        refine X.newO (pc' := 101) (wd27 hw) (wd10 hw) (wd2 hw) at_98 (by decide) (by decide) rfl ?_
        intro T h x8 g_x8 Ex lt_x8 E_x8 D_x8 X1
        have z_x8 : Z.heap.size ≤ x8 := by rw [g_x8]; exact X.old.1
        have s_x8 : s.heap.size ≤ x8 := by rw [g_x8]; exact X.kp.1
        have ne_x7_x8 : x7 ≠ x8 := Nat.ne_of_lt (by rw [g_x8]; exact lt_x7)
        have ne_b8_x8 : b8 ≠ x8 := Nat.ne_of_lt (by rw [g_x8]; exact lt_b8)
        replace S_x7 := S_x7.ext Ex
        replace lt_x7 := Nat.lt_of_lt_of_le lt_x7 Ex.1
        replace V_b8 := V_b8.ext Ex
        replace lt_b8 := Nat.lt_of_lt_of_le lt_b8 Ex.1
        replace X := X1
        have F_x8_value : Fld Z h x8 "java/lang/String" "value" "[B" .null := D_x8 (Or.inr (wd23 hw)) (ty := (.array .byte)) (by decide)
        have F_x8_coder : Fld Z h x8 "java/lang/String" "coder" "B" (.int (0 : Int32)) := D_x8 (Or.inr (wd25 hw)) (ty := .byte) (by decide)
        refine X.dup (pc' := 102) at_101 rfl rfl ?_
        refine X.aload (pc' := 104) at_102 rfl rfl rfl ?_
        refine X.newStr (pc' := 107) (cs := [k0, k1]) (n := 2) (X.sSpecial rfl (wd28 hw) (wd29 hw) (wd30 hw) (by decide) rfl pd17 [(.ref b8)] rfl rfl at_104) hws (wd10 hw) E_x8 F_x8_value F_x8_coder V_b8 O2 hz rfl rfl (by decide) (by decide) (allC r_k0.1 (all1 r_k1.1)) (leB rfl) (leB rfl) (leB rfl) (leB rfl) z_x8 (Or.inr s_x8) rfl ?_
        intro T h L X K S_x8
        have Ob1 := (obj E_x8 (wd10 hw))
        replace S_x7 := S_x7.keep1 K ne_x7_x8 Ob1
        replace lt_x7 := Nat.lt_of_lt_of_le lt_x7 K.1
        replace V_b8 := V_b8.keep K (ninS ne_b8_x8 nin0)
        replace lt_b8 := Nat.lt_of_lt_of_le lt_b8 K.1
        replace E_x8 := E_x8.keep K
        replace lt_x8 := Nat.lt_of_lt_of_le lt_x8 K.1
        refine X.astore (pc' := 109) #[.val (.int p1), .val (.int p2), .val (.int p3), .val (.int p4), .val (.int (0 : Int32)), .val (.int (0 : Int32)), .val (.int (1 : Int32)), .val (.ref x7), .val (.ref x8), .val (.ref b8), .unset, .unset] at_107 rfl rfl rfl ?_
        refine X.newO (pc' := 112) (wd44 hw) (wd45 hw) (wd46 hw) at_109 (by decide) (by decide) rfl ?_
        intro T h al g_al Ex lt_al E_al D_al X1
        have z_al : Z.heap.size ≤ al := by rw [g_al]; exact X.old.1
        have s_al : s.heap.size ≤ al := by rw [g_al]; exact X.kp.1
        have ne_x7_al : x7 ≠ al := Nat.ne_of_lt (by rw [g_al]; exact lt_x7)
        have ne_x8_al : x8 ≠ al := Nat.ne_of_lt (by rw [g_al]; exact lt_x8)
        replace lt_x7 := Nat.lt_of_lt_of_le lt_x7 Ex.1
        replace lt_x8 := Nat.lt_of_lt_of_le lt_x8 Ex.1
        replace S_x8 := S_x8.ext Ex
        replace X := X1
        have F_al_elementData : Fld Z h al "java/util/ArrayList" "elementData" "[Ljava/lang/Object;" .null := D_al (Or.inl (wd67 hw)) (ty := (.array (.object "java/lang/Object"))) (by decide)
        have F_al_size : Fld Z h al "java/util/ArrayList" "size" "I" (.int (0 : Int32)) := D_al (Or.inl (wd92 hw)) (ty := .int) (by decide)
        have F_al_modCount : Fld Z h al "java/util/AbstractList" "modCount" "I" (.int (0 : Int32)) := D_al (Or.inl (wd64 hw)) (ty := .int) (by decide)
        refine X.dup (pc' := 113) at_112 rfl rfl ?_
        refine X.callU (pc' := 116) (X.sSpecial rfl (wd47 hw) (wd48 hw) (wd49 hw) (by decide) rfl pd4 [] rfl rfl at_113) (rmALI l Z a0 hw al _ X.old d0 SD VD z_al ⟨E_al, F_al_elementData, F_al_size, F_al_modCount⟩) (wd49 hw) (wd46 hw) (leB rfl) (leB rfl) (leB rfl) (leB rfl) (sfS (Safe.exa X.al E_al (by decide) (by decide)) sf0) (allS z_al all0) (allS (Or.inr s_al) all0) rfl ?_
        intro T h L X K A_al
        have Ob1 := (obj E_al (wd45 hw))
        replace lt_x7 := Nat.lt_of_lt_of_le lt_x7 K.1
        replace lt_x8 := Nat.lt_of_lt_of_le lt_x8 K.1
        replace S_x8 := S_x8.keep1 K ne_x8_al Ob1
        replace E_al := E_al.keep K
        replace lt_al := Nat.lt_of_lt_of_le lt_al K.1
        refine X.astore (pc' := 118) #[.val (.int p1), .val (.int p2), .val (.int p3), .val (.int p4), .val (.int (0 : Int32)), .val (.int (0 : Int32)), .val (.int (1 : Int32)), .val (.ref x7), .val (.ref x8), .val (.ref al), .unset, .unset] at_116 rfl rfl rfl ?_
        refine X.iload (pc' := 120) at_118 rfl rfl ?_
        refine X.ifN (pc' := 123) at_120 (by decide) rfl ?_
        refine X.aload (pc' := 125) at_123 rfl rfl rfl ?_
        refine X.newO (pc' := 128) (wd68 hw) (wd69 hw) (wd70 hw) at_125 (by decide) (by decide) rfl ?_
        intro T h e0 g_e0 Ex lt_e0 E_e0 D_e0 X1
        have z_e0 : Z.heap.size ≤ e0 := by rw [g_e0]; exact X.old.1
        have s_e0 : s.heap.size ≤ e0 := by rw [g_e0]; exact X.kp.1
        have ne_x7_e0 : x7 ≠ e0 := Nat.ne_of_lt (by rw [g_e0]; exact lt_x7)
        have ne_x8_e0 : x8 ≠ e0 := Nat.ne_of_lt (by rw [g_e0]; exact lt_x8)
        have ne_al_e0 : al ≠ e0 := Nat.ne_of_lt (by rw [g_e0]; exact lt_al)
        replace lt_x7 := Nat.lt_of_lt_of_le lt_x7 Ex.1
        replace lt_x8 := Nat.lt_of_lt_of_le lt_x8 Ex.1
        replace S_x8 := S_x8.ext Ex
        replace lt_al := Nat.lt_of_lt_of_le lt_al Ex.1
        replace A_al := A_al.ext Ex
        replace X := X1
        have F_e0_text : Fld Z h e0 "com/example/treegraft/treegraft/brackets/Atom" "text" "Ljava/lang/String;" .null := D_e0 (Or.inr (wd81 hw)) (ty := (.object "java/lang/String")) (by decide)
        have F_e0_line : Fld Z h e0 "com/example/treegraft/treegraft/brackets/Atom" "line" "I" (.int (0 : Int32)) := D_e0 (Or.inr (wd83 hw)) (ty := .int) (by decide)
        refine X.dup (pc' := 129) at_128 rfl rfl ?_
        refine X.iloadN (pc' := 130) at_129 rfl rfl ?_
        refine X.bipush (pc' := 132) (8 : Int32) at_130 rfl rfl ?_
        refine X.iushr (pc' := 133) at_132 rfl ?_
        refine X.sipush (pc' := 136) (255 : Int32) at_133 rfl rfl ?_
        refine X.iand (pc' := 137) at_136 rfl ?_
        refine X.i2c (pc' := 138) at_137 rfl ?_
        generalize hc_q0 : ((((p3.toUInt32 >>> ((8 : Int32) &&& 31).toUInt32).toInt32) &&& (255 : Int32)).toUInt32.toUInt16.toUInt32.toInt32) = q0
        have r_q0 := chr255 hc_q0
        refine X.callV (pc' := 141) (X.sStatic (wd0 hw) (wd1 hw) (wd2 hw) (wd3 hw) (by decide) rfl pd16 [(.int q0)] rfl rfl at_138) (rmVOf l Z a0 hw q0 _ X.old z O2 hz r_q0.1) (wd3 hw) (wd2 hw) (leB rfl) (leB rfl) (leB rfl) (leB rfl) sf0 all0 all0 rfl ?_
        intro T h L v X K q
        obtain ⟨se0, rfl, le_se0, S_se0⟩ := q
        replace lt_x7 := Nat.lt_of_lt_of_le lt_x7 K.1
        replace lt_x8 := Nat.lt_of_lt_of_le lt_x8 K.1
        replace S_x8 := S_x8.keep0 K
        replace lt_al := Nat.lt_of_lt_of_le lt_al K.1
        replace A_al := A_al.keep K nin0
        replace E_e0 := E_e0.keep K
        replace lt_e0 := Nat.lt_of_lt_of_le lt_e0 K.1
        replace F_e0_text := F_e0_text.keep K nin0
        replace F_e0_line := F_e0_line.keep K nin0
        have lt_se0 := S_se0.lt
        refine X.iloadN (pc' := 142) at_141 rfl rfl ?_
        refine X.callU (pc' := 145) (X.sSpecial rfl (wd71 hw) (wd72 hw) (wd73 hw) (by decide) rfl pd18 [(.ref se0), (.int p4)] rfl rfl at_142) (rmAtom l Z a0 hw e0 (.ref se0) rfl p4 _ X.old  z_e0 E_e0 F_e0_text F_e0_line) (wd73 hw) (wd70 hw) (leB rfl) (leB rfl) (leB rfl) (leB rfl) (sfS (Safe.exa X.al E_e0 (by decide) (by decide)) sf0) (allS z_e0 all0) (allS (Or.inr s_e0) all0) rfl ?_
        intro T h L X K q
        have Ob1 := (obj E_e0 (wd69 hw))
        replace lt_x7 := Nat.lt_of_lt_of_le lt_x7 K.1
        replace lt_x8 := Nat.lt_of_lt_of_le lt_x8 K.1
        replace S_x8 := S_x8.keep1 K ne_x8_e0 Ob1
        replace lt_al := Nat.lt_of_lt_of_le lt_al K.1
        replace A_al := A_al.keep K (ninS ne_al_e0 nin0)
        replace E_e0 := E_e0.keep K
        replace lt_e0 := Nat.lt_of_lt_of_le lt_e0 K.1
        replace lt_se0 := Nat.lt_of_lt_of_le lt_se0 K.1
        obtain ⟨_, F_e0_text, F_e0_line⟩ := q
        have zo := X.old.1
        have so := X.kp.1
        refine X.callV (pc' := 148) (X.sVirtual (wd84 hw) (wd85 hw) (wd87 hw) (wd86 hw) (by decide) rfl pd19 A_al.1 [(.ref e0)] rfl rfl at_145 (X.nf (wd87 hw) rfl)) (rmAddF l Z a0 hw al e0 _ X.old d0 SD VD z_al _ A_al _ (wd114 hw) E_e0) (wd88 hw) (wd46 hw) (leB rfl) (leB rfl) (leB rfl) (leB rfl) (sfS (Safe.exa X.al A_al.1 (by decide) (by decide)) sf0) (allS z_al all0) (allS (Or.inr s_al) all0) rfl ?_
        intro T h L v X K q
        obtain ⟨rfl, ld, le_ld, A_n, V_ld⟩ := q
        have ne_x7_ld : x7 ≠ ld := Nat.ne_of_lt (Nat.lt_of_lt_of_le lt_x7 le_ld)
        have ne_x8_ld : x8 ≠ ld := Nat.ne_of_lt (Nat.lt_of_lt_of_le lt_x8 le_ld)
        have ne_al_ld : al ≠ ld := Nat.ne_of_lt (Nat.lt_of_lt_of_le lt_al le_ld)
        have ne_e0_ld : e0 ≠ ld := Nat.ne_of_lt (Nat.lt_of_lt_of_le lt_e0 le_ld)
        have ne_se0_ld : se0 ≠ ld := Nat.ne_of_lt (Nat.lt_of_lt_of_le lt_se0 le_ld)
        have z_ld := Nat.le_trans zo le_ld
        have s_ld := Nat.le_trans so le_ld
        have Ob1 := (obj A_al.1 (wd45 hw))
        replace lt_x7 := Nat.lt_of_lt_of_le lt_x7 K.1
        replace lt_x8 := Nat.lt_of_lt_of_le lt_x8 K.1
        replace S_x8 := S_x8.keep1 K ne_x8_al Ob1
        replace lt_al := Nat.lt_of_lt_of_le lt_al K.1
        replace E_e0 := E_e0.keep K
        replace lt_e0 := Nat.lt_of_lt_of_le lt_e0 K.1
        replace lt_se0 := Nat.lt_of_lt_of_le lt_se0 K.1
        replace A_al := A_n
        have lt_ld := V_ld.lt
        refine X.pop (pc' := 149) at_148 rfl rfl ?_
        refine X.iload (pc' := 151) at_149 rfl rfl ?_
        refine X.ifN (pc' := 154) at_151 (by decide) rfl ?_
        refine X.aload (pc' := 156) at_154 rfl rfl rfl ?_
        refine X.newO (pc' := 159) (wd68 hw) (wd69 hw) (wd70 hw) at_156 (by decide) (by decide) rfl ?_
        intro T h e1 g_e1 Ex lt_e1 E_e1 D_e1 X1
        have z_e1 : Z.heap.size ≤ e1 := by rw [g_e1]; exact X.old.1
        have s_e1 : s.heap.size ≤ e1 := by rw [g_e1]; exact X.kp.1
        have ne_x7_e1 : x7 ≠ e1 := Nat.ne_of_lt (by rw [g_e1]; exact lt_x7)
        have ne_x8_e1 : x8 ≠ e1 := Nat.ne_of_lt (by rw [g_e1]; exact lt_x8)
        have ne_al_e1 : al ≠ e1 := Nat.ne_of_lt (by rw [g_e1]; exact lt_al)
        have ne_e0_e1 : e0 ≠ e1 := Nat.ne_of_lt (by rw [g_e1]; exact lt_e0)
        have ne_se0_e1 : se0 ≠ e1 := Nat.ne_of_lt (by rw [g_e1]; exact lt_se0)
        have ne_ld_e1 : ld ≠ e1 := Nat.ne_of_lt (by rw [g_e1]; exact lt_ld)
        replace lt_x7 := Nat.lt_of_lt_of_le lt_x7 Ex.1
        replace lt_x8 := Nat.lt_of_lt_of_le lt_x8 Ex.1
        replace S_x8 := S_x8.ext Ex
        replace lt_al := Nat.lt_of_lt_of_le lt_al Ex.1
        replace E_e0 := E_e0.ext Ex
        replace lt_e0 := Nat.lt_of_lt_of_le lt_e0 Ex.1
        replace lt_se0 := Nat.lt_of_lt_of_le lt_se0 Ex.1
        replace A_al := A_al.ext Ex
        replace V_ld := V_ld.ext Ex
        replace lt_ld := Nat.lt_of_lt_of_le lt_ld Ex.1
        replace X := X1
        have F_e1_text : Fld Z h e1 "com/example/treegraft/treegraft/brackets/Atom" "text" "Ljava/lang/String;" .null := D_e1 (Or.inr (wd81 hw)) (ty := (.object "java/lang/String")) (by decide)
        have F_e1_line : Fld Z h e1 "com/example/treegraft/treegraft/brackets/Atom" "line" "I" (.int (0 : Int32)) := D_e1 (Or.inr (wd83 hw)) (ty := .int) (by decide)
        refine X.dup (pc' := 160) at_159 rfl rfl ?_
        refine X.iloadN (pc' := 161) at_160 rfl rfl ?_
        refine X.bipush (pc' := 163) (16 : Int32) at_161 rfl rfl ?_
        refine X.iushr (pc' := 164) at_163 rfl ?_
        refine X.sipush (pc' := 167) (255 : Int32) at_164 rfl rfl ?_
        refine X.iand (pc' := 168) at_167 rfl ?_
        refine X.i2c (pc' := 169) at_168 rfl ?_
        generalize hc_q1 : ((((p3.toUInt32 >>> ((16 : Int32) &&& 31).toUInt32).toInt32) &&& (255 : Int32)).toUInt32.toUInt16.toUInt32.toInt32) = q1
        have r_q1 := chr255 hc_q1
        refine X.callV (pc' := 172) (X.sStatic (wd0 hw) (wd1 hw) (wd2 hw) (wd3 hw) (by decide) rfl pd16 [(.int q1)] rfl rfl at_169) (rmVOf l Z a0 hw q1 _ X.old z O2 hz r_q1.1) (wd3 hw) (wd2 hw) (leB rfl) (leB rfl) (leB rfl) (leB rfl) sf0 all0 all0 rfl ?_
        intro T h L v X K q
        obtain ⟨se1, rfl, le_se1, S_se1⟩ := q
        replace lt_x7 := Nat.lt_of_lt_of_le lt_x7 K.1
        replace lt_x8 := Nat.lt_of_lt_of_le lt_x8 K.1
        replace S_x8 := S_x8.keep0 K
        replace lt_al := Nat.lt_of_lt_of_le lt_al K.1
        replace E_e0 := E_e0.keep K
        replace lt_e0 := Nat.lt_of_lt_of_le lt_e0 K.1
        replace lt_se0 := Nat.lt_of_lt_of_le lt_se0 K.1
        replace A_al := A_al.keep K nin0
        replace V_ld := V_ld.keep K nin0
        replace lt_ld := Nat.lt_of_lt_of_le lt_ld K.1
        replace E_e1 := E_e1.keep K
        replace lt_e1 := Nat.lt_of_lt_of_le lt_e1 K.1
        replace F_e1_text := F_e1_text.keep K nin0
        replace F_e1_line := F_e1_line.keep K nin0
        have lt_se1 := S_se1.lt
        refine X.iloadN (pc' := 173) at_172 rfl rfl ?_
        refine X.callU (pc' := 176) (X.sSpecial rfl (wd71 hw) (wd72 hw) (wd73 hw) (by decide) rfl pd18 [(.ref se1), (.int p4)] rfl rfl at_173) (rmAtom l Z a0 hw e1 (.ref se1) rfl p4 _ X.old  z_e1 E_e1 F_e1_text F_e1_line) (wd73 hw) (wd70 hw) (leB rfl) (leB rfl) (leB rfl) (leB rfl) (sfS (Safe.exa X.al E_e1 (by decide) (by decide)) sf0) (allS z_e1 all0) (allS (Or.inr s_e1) all0) rfl ?_
        intro T h L X K q
        have Ob1 := (obj E_e1 (wd69 hw))
        replace lt_x7 := Nat.lt_of_lt_of_le lt_x7 K.1
        replace lt_x8 := Nat.lt_of_lt_of_le lt_x8 K.1
        replace S_x8 := S_x8.keep1 K ne_x8_e1 Ob1
        replace lt_al := Nat.lt_of_lt_of_le lt_al K.1
        replace E_e0 := E_e0.keep K
        replace lt_e0 := Nat.lt_of_lt_of_le lt_e0 K.1
        replace lt_se0 := Nat.lt_of_lt_of_le lt_se0 K.1
        replace A_al := A_al.keep K (ninS ne_al_e1 nin0)
        replace V_ld := V_ld.keep K (ninS ne_ld_e1 nin0)
        replace lt_ld := Nat.lt_of_lt_of_le lt_ld K.1
        replace E_e1 := E_e1.keep K
        replace lt_e1 := Nat.lt_of_lt_of_le lt_e1 K.1
        replace lt_se1 := Nat.lt_of_lt_of_le lt_se1 K.1
        obtain ⟨_, F_e1_text, F_e1_line⟩ := q
        obtain ⟨kt_ld, B_ld⟩ := V_ld.ty
        refine X.callV (pc' := 179) (X.sVirtual (wd84 hw) (wd85 hw) (wd87 hw) (wd86 hw) (by decide) rfl pd19 A_al.1 [(.ref e1)] rfl rfl at_176 (X.nf (wd87 hw) rfl)) (rmAddN l Z a0 hw al e1 _ X.old ld (1 : Int32) z_al z_ld ne_al_ld _ A_al [(.ref e0), (.null), (.null), (.null), (.null), (.null), (.null), (.null), (.null), (.null)] rfl V_ld 1 rfl (by decide) ⟨by decide, by decide⟩ (by decide) _ (wd114 hw) E_e1) (wd88 hw) (wd46 hw) (leB rfl) (leB rfl) (leB rfl) (leB rfl) (sfS (Safe.exa X.al A_al.1 (by decide) (by decide)) (sfS (V_ld.safe X.al) sf0)) (allS z_al (allS z_ld all0)) (allS (Or.inr s_al) (allS (Or.inr s_ld) all0)) rfl ?_
        intro T h L v X K q
        obtain ⟨rfl, A_n, V_n⟩ := q
        have Ob1 := (obj A_al.1 (wd45 hw))
        have Ob2 := B_ld
        replace lt_x7 := Nat.lt_of_lt_of_le lt_x7 K.1
        replace lt_x8 := Nat.lt_of_lt_of_le lt_x8 K.1
        replace S_x8 := S_x8.keep2 K ne_x8_al Ob1 ne_x8_ld Ob2
        replace lt_al := Nat.lt_of_lt_of_le lt_al K.1
        replace E_e0 := E_e0.keep K
        replace lt_e0 := Nat.lt_of_lt_of_le lt_e0 K.1
        replace lt_se0 := Nat.lt_of_lt_of_le lt_se0 K.1
        replace lt_ld := Nat.lt_of_lt_of_le lt_ld K.1
        replace E_e1 := E_e1.keep K
        replace lt_e1 := Nat.lt_of_lt_of_le lt_e1 K.1
        replace lt_se1 := Nat.lt_of_lt_of_le lt_se1 K.1
        rw [show ((1 : Int32) + 1 : Int32) = (2 : Int32) from by decide] at A_n
        replace A_al := A_n
        replace V_ld : OA Z h ld 10 [(.ref e0), (.ref e1), (.null), (.null), (.null), (.null), (.null), (.null), (.null), (.null)] := V_n
        refine X.pop (pc' := 180) at_179 rfl rfl ?_
        refine X.newO (pc' := 183) (wd115 hw) (wd116 hw) (wd117 hw) at_180 (by decide) (by decide) rfl ?_
        intro T h br g_br Ex lt_br E_br D_br X1
        have z_br : Z.heap.size ≤ br := by rw [g_br]; exact X.old.1
        have s_br : s.heap.size ≤ br := by rw [g_br]; exact X.kp.1
        have ne_x7_br : x7 ≠ br := Nat.ne_of_lt (by rw [g_br]; exact lt_x7)
        have ne_x8_br : x8 ≠ br := Nat.ne_of_lt (by rw [g_br]; exact lt_x8)
        have ne_al_br : al ≠ br := Nat.ne_of_lt (by rw [g_br]; exact lt_al)
        have ne_e0_br : e0 ≠ br := Nat.ne_of_lt (by rw [g_br]; exact lt_e0)
        have ne_se0_br : se0 ≠ br := Nat.ne_of_lt (by rw [g_br]; exact lt_se0)
        have ne_ld_br : ld ≠ br := Nat.ne_of_lt (by rw [g_br]; exact lt_ld)
        have ne_e1_br : e1 ≠ br := Nat.ne_of_lt (by rw [g_br]; exact lt_e1)
        have ne_se1_br : se1 ≠ br := Nat.ne_of_lt (by rw [g_br]; exact lt_se1)
        replace lt_x7 := Nat.lt_of_lt_of_le lt_x7 Ex.1
        replace lt_x8 := Nat.lt_of_lt_of_le lt_x8 Ex.1
        replace lt_al := Nat.lt_of_lt_of_le lt_al Ex.1
        replace E_e0 := E_e0.ext Ex
        replace lt_e0 := Nat.lt_of_lt_of_le lt_e0 Ex.1
        replace lt_se0 := Nat.lt_of_lt_of_le lt_se0 Ex.1
        replace lt_ld := Nat.lt_of_lt_of_le lt_ld Ex.1
        replace E_e1 := E_e1.ext Ex
        replace lt_e1 := Nat.lt_of_lt_of_le lt_e1 Ex.1
        replace lt_se1 := Nat.lt_of_lt_of_le lt_se1 Ex.1
        replace A_al := A_al.ext Ex
        replace V_ld := V_ld.ext Ex
        replace X := X1
        have F_br_label : Fld Z h br "com/example/treegraft/treegraft/brackets/Bracket" "label" "Ljava/lang/String;" .null := D_br (Or.inr (wd220 hw)) (ty := (.object "java/lang/String")) (by decide)
        have F_br_word : Fld Z h br "com/example/treegraft/treegraft/brackets/Bracket" "word" "Ljava/lang/String;" .null := D_br (Or.inr (wd222 hw)) (ty := (.object "java/lang/String")) (by decide)
        have F_br_children : Fld Z h br "com/example/treegraft/treegraft/brackets/Bracket" "children" "Ljava/util/List;" .null := D_br (Or.inr (wd224 hw)) (ty := (.object "java/util/List")) (by decide)
        have F_br_line : Fld Z h br "com/example/treegraft/treegraft/brackets/Bracket" "line" "I" (.int (0 : Int32)) := D_br (Or.inr (wd226 hw)) (ty := .int) (by decide)
        refine X.dup (pc' := 184) at_183 rfl rfl ?_
        refine X.aload (pc' := 186) at_184 rfl rfl rfl ?_
        refine X.iload (pc' := 188) at_186 rfl rfl ?_
        refine X.ifY (pc' := 196) at_188 (by decide) (by decide) (by decide) ?_
        refine X.aconstNull (pc' := 197) at_196 rfl ?_
        refine X.aload (pc' := 199) at_197 rfl rfl rfl ?_
        refine X.iloadN (pc' := 200) at_199 rfl rfl ?_
        refine X.callU (pc' := 203) (X.sSpecial rfl (wd118 hw) (wd119 hw) (wd120 hw) (by decide) rfl pd20 [(.ref x7), .null, (.ref al), (.int p4)] rfl rfl at_200) (rmBrN2 l Z a0 hw br (.ref x7) rfl al p4 _ X.old mo M_o ma M_a mu M_u mr M_r z_br E_br F_br_label F_br_word F_br_children F_br_line ld ne_al_br ne_ld_br _ A_al e0 _ (wd114 hw) E_e0 e1 _ (wd114 hw) E_e1 V_ld) (wd120 hw) (wd117 hw) (leB rfl) (leB rfl) (leB rfl) (leB rfl) (sfS (Safe.exa X.al E_br (by decide) (by decide)) sf0) (allS z_br all0) (allS (Or.inr s_br) all0) rfl ?_
        intro T h L X K q
        obtain ⟨u, nl, r, E_br, F_br_label, F_br_word, F_br_children, F_br_line, U, A_nl⟩ := q
        refine X.astore (pc' := 205) #[.val (.int p1), .val (.int p2), .val (.int p3), .val (.int p4), .val (.int (0 : Int32)), .val (.int (0 : Int32)), .val (.int (1 : Int32)), .val (.ref x7), .val (.ref x8), .val (.ref al), .val (.ref br), .unset] at_203 rfl rfl rfl ?_
        refine X.aload (pc' := 207) at_205 rfl rfl rfl ?_
        refine X.callP (pc' := 210) (X.sVirtual (wd227 hw) (wd228 hw) (wd230 hw) (wd229 hw) (by decide) rfl pd13 E_br [] rfl rfl at_207 (X.nf (wd230 hw) rfl)) (rmIsW0 l Z a0 hw br _ X.old F_br_word) (wd231 hw) (wd117 hw) (leB rfl) (leB rfl) (leB rfl) (leB rfl) rfl ?_
        intro T L v X q
        subst q
        refine X.istore (pc' := 212) #[.val (.int p1), .val (.int p2), .val (.int p3), .val (.int p4), .val (.int (0 : Int32)), .val (.int (0 : Int32)), .val (.int (1 : Int32)), .val (.ref x7), .val (.ref x8), .val (.ref al), .val (.ref br), .val (.int (0 : Int32))] at_210 rfl rfl ?_
        refine X.iload (pc' := 214) at_212 rfl rfl ?_
        refine X.iload (pc' := 216) at_214 rfl rfl ?_
        refine X.icN (pc' := 219) at_216 (by decide) rfl ?_
        refine X.iload (pc' := 221) at_219 rfl rfl ?_
        refine X.aload (pc' := 223) at_221 rfl rfl rfl ?_
        refine X.callP (pc' := 226) (X.sVirtual (wd232 hw) (wd233 hw) (wd235 hw) (wd234 hw) (by decide) rfl pd21 E_br [] rfl rfl at_223 (X.nf (wd230 hw) rfl)) (rmWord l Z a0 hw br _ X.old .null rfl F_br_word) (wd236 hw) (wd117 hw) (leB rfl) (leB rfl) (leB rfl) (leB rfl) rfl ?_
        intro T L v X q
        subst q
        refine X.nullY (pc' := 233) at_226 (by decide) (by decide) ?_
        refine X.iconst (pc' := 234) (0 : Int32) at_233 rfl rfl ?_
        refine X.icN (pc' := 237) at_234 (by decide) rfl ?_
        refine X.iload (pc' := 239) at_237 rfl rfl ?_
        refine X.aload (pc' := 241) at_239 rfl rfl rfl ?_
        refine X.callP (pc' := 244) (X.sVirtual (wd237 hw) (wd238 hw) (wd240 hw) (wd239 hw) (by decide) rfl pd14 E_br [] rfl rfl at_241 (X.nf (wd230 hw) rfl)) (rmCh l Z a0 hw br _ X.old (.ref u) rfl F_br_children) (wd241 hw) (wd117 hw) (leB rfl) (leB rfl) (leB rfl) (leB rfl) rfl ?_
        intro T L v X q
        subst q
        rcases U with hu | hu
        · have A_u : AL Z h u (.ref r) (2 : Int32) 0 := by rw [hu]; exact A_nl
          refine X.callP (pc' := 249) (X.sFace (y := (⟨"java/util/ArrayList", "isEmpty", "()Z"⟩ : MethodName)) (wd242 hw) (wd123 hw) (wd124 hw) rfl (wd125 hw) (wd126 hw) (wd127 hw) (wd128 hw) (wd129 hw) (by decide) rfl pd13 A_u.1 [] rfl rfl at_244) (rmIsEN l Z a0 hw u _ X.old (2 : Int32) (by decide) _ _ A_u) (wd130 hw) (wd46 hw) (leB rfl) (leB rfl) (leB rfl) (leB rfl) rfl ?_
          intro T L v X q
          subst q
          refine X.icN (pc' := 252) at_249 (by decide) rfl ?_
          refine X.aload (pc' := 254) at_252 rfl rfl rfl ?_
          refine X.callP (pc' := 257) (X.sVirtual (wd243 hw) (wd244 hw) (wd246 hw) (wd245 hw) (by decide) rfl pd22 E_br [] rfl rfl at_254 (X.nf (wd230 hw) rfl)) (rmLine l Z a0 hw br _ X.old p4 rfl F_br_line) (wd247 hw) (wd117 hw) (leB rfl) (leB rfl) (leB rfl) (leB rfl) rfl ?_
          intro T L v X q
          subst q
          refine X.iloadN (pc' := 258) at_257 rfl rfl ?_
          refine X.icN (pc' := 261) at_258 ((teq rfl).2) rfl ?_
          refine X.iconst (pc' := 262) (1 : Int32) at_261 rfl rfl ?_
          refine X.goto (pc' := 266) at_262 (by decide) (by decide) ?_
          exact X.retIC (by simp) rfl at_266 (by decide) (by decide) ⟨_, rfl, rfl⟩
        · refine X.callP (pc' := 249) (X.sFace (y := (⟨"java/util/Collections$UnmodifiableCollection", "isEmpty", "()Z"⟩ : MethodName)) (wd242 hw) (wd123 hw) (wd124 hw) rfl (wd209 hw) (wd210 hw) (wd211 hw) (wd212 hw) (wd213 hw) (by decide) rfl pd13 hu.1 [] rfl rfl at_244) (rmUIsE l Z a0 hw u _ X.old nl _ hu (2 : Int32) (by decide) _ _ A_nl) (wd214 hw) (wd202 hw) (leB rfl) (leB rfl) (leB rfl) (leB rfl) rfl ?_
          intro T L v X q
          subst q
          refine X.icN (pc' := 252) at_249 (by decide) rfl ?_
          refine X.aload (pc' := 254) at_252 rfl rfl rfl ?_
          refine X.callP (pc' := 257) (X.sVirtual (wd243 hw) (wd244 hw) (wd246 hw) (wd245 hw) (by decide) rfl pd22 E_br [] rfl rfl at_254 (X.nf (wd230 hw) rfl)) (rmLine l Z a0 hw br _ X.old p4 rfl F_br_line) (wd247 hw) (wd117 hw) (leB rfl) (leB rfl) (leB rfl) (leB rfl) rfl ?_
          intro T L v X q
          subst q
          refine X.iloadN (pc' := 258) at_257 rfl rfl ?_
          refine X.icN (pc' := 261) at_258 ((teq rfl).2) rfl ?_
          refine X.iconst (pc' := 262) (1 : Int32) at_261 rfl rfl ?_
          refine X.goto (pc' := 266) at_262 (by decide) (by decide) ?_
          exact X.retIC (by simp) rfl at_266 (by decide) (by decide) ⟨_, rfl, rfl⟩
    · refine X.ifN (pc' := 19) at_16 ((if0 _ _).trans (feq hq1).1) rfl ?_
      refine X.iconst (pc' := 20) (1 : Int32) at_19 rfl rfl ?_
      refine X.goto (pc' := 24) at_20 (by decide) (by decide) ?_
      refine X.istore (pc' := 26) #[.val (.int p1), .val (.int p2), .val (.int p3), .val (.int p4), .val (.int (0 : Int32)), .val (.int (1 : Int32)), .unset, .unset, .unset, .unset, .unset, .unset] at_24 rfl rfl ?_
      refine X.iloadN (pc' := 27) at_26 rfl rfl ?_
      refine X.iconst (pc' := 28) (4 : Int32) at_27 rfl rfl ?_
      refine X.iand (pc' := 29) at_28 rfl ?_
      by_cases hq2 : (p1 &&& (4 : Int32)) = 0
      · refine X.ifY (pc' := 36) at_29 ((if0 _ _).trans (teq hq2).1) (by decide) (by decide) ?_
        refine X.iconst (pc' := 37) (0 : Int32) at_36 rfl rfl ?_
        refine X.istore (pc' := 39) #[.val (.int p1), .val (.int p2), .val (.int p3), .val (.int p4), .val (.int (0 : Int32)), .val (.int (1 : Int32)), .val (.int (0 : Int32)), .unset, .unset, .unset, .unset, .unset] at_37 rfl rfl ?_
        refine X.iloadN (pc' := 40) at_39 rfl rfl ?_
        refine X.sipush (pc' := 43) (255 : Int32) at_40 rfl rfl ?_
        refine X.iand (pc' := 44) at_43 rfl ?_
        refine X.i2c (pc' := 45) at_44 rfl ?_
        generalize hc_c7 : ((p2 &&& (255 : Int32)).toUInt32.toUInt16.toUInt32.toInt32) = c7
        have r_c7 := chr255 hc_c7
        refine X.callV (pc' := 48) (X.sStatic (wd0 hw) (wd1 hw) (wd2 hw) (wd3 hw) (by decide) rfl pd16 [(.int c7)] rfl rfl at_45) (rmVOf l Z a0 hw c7 _ X.old z O2 hz r_c7.1) (wd3 hw) (wd2 hw) (leB rfl) (leB rfl) (leB rfl) (leB rfl) sf0 all0 all0 rfl ?_
        intro T h L v X K q
        obtain ⟨x7, rfl, le_x7, S_x7⟩ := q
        have lt_x7 := S_x7.lt
        refine X.astore (pc' := 50) #[.val (.int p1), .val (.int p2), .val (.int p3), .val (.int p4), .val (.int (0 : Int32)), .val (.int (1 : Int32)), .val (.int (0 : Int32)), .val (.ref x7), .unset, .unset, .unset, .unset] at_48 rfl rfl rfl ?_
        refine X.iload (pc' := 52) at_50 rfl rfl ?_
        refine X.ifN (pc' := 55) at_52 (by decide) rfl ?_
        refine X.newO (pc' := 58) (wd27 hw) (wd10 hw) (wd2 hw) at_55 (by decide) (by decide) rfl ?_
        intro T h x8 g_x8 Ex lt_x8 E_x8 D_x8 X1
        have z_x8 : Z.heap.size ≤ x8 := by rw [g_x8]; exact X.old.1
        have s_x8 : s.heap.size ≤ x8 := by rw [g_x8]; exact X.kp.1
        have ne_x7_x8 : x7 ≠ x8 := Nat.ne_of_lt (by rw [g_x8]; exact lt_x7)
        replace S_x7 := S_x7.ext Ex
        replace lt_x7 := Nat.lt_of_lt_of_le lt_x7 Ex.1
        replace X := X1
        have F_x8_value : Fld Z h x8 "java/lang/String" "value" "[B" .null := D_x8 (Or.inr (wd23 hw)) (ty := (.array .byte)) (by decide)
        have F_x8_coder : Fld Z h x8 "java/lang/String" "coder" "B" (.int (0 : Int32)) := D_x8 (Or.inr (wd25 hw)) (ty := .byte) (by decide)
        refine X.dup (pc' := 59) at_58 rfl rfl ?_
        refine X.iconst (pc' := 60) (0 : Int32) at_59 rfl rfl ?_
        refine X.newP (pc' := 62) (aty := .char) (wd26 hw) at_60 (by decide) 0 (by decide) (by decide) (by decide) (by decide) rfl ?_
        intro T h b8 ka_b8 g_b8 Ex lt_b8 V_b8 X1
        have z_b8 : Z.heap.size ≤ b8 := by rw [g_b8]; exact X.old.1
        have s_b8 : s.heap.size ≤ b8 := by rw [g_b8]; exact X.kp.1
        have ne_x7_b8 : x7 ≠ b8 := Nat.ne_of_lt (by rw [g_b8]; exact lt_x7)
        have ne_x8_b8 : x8 ≠ b8 := Nat.ne_of_lt (by rw [g_b8]; exact lt_x8)
        replace S_x7 := S_x7.ext Ex
        replace lt_x7 := Nat.lt_of_lt_of_le lt_x7 Ex.1
        replace E_x8 := E_x8.ext Ex
        replace lt_x8 := Nat.lt_of_lt_of_le lt_x8 Ex.1
        replace F_x8_value := F_x8_value.ext Ex
        replace F_x8_coder := F_x8_coder.ext Ex
        replace X := X1
        replace V_b8 : Arv Z h b8 ka_b8 .char (0 : Int32) [] (.int (0 : Int32)) := (Arv.pad V_b8 (pad_rep [] (.int (0 : Int32)) 0))
        refine X.coldU (pc' := 65) (X.sSpecial rfl (wd28 hw) (wd29 hw) (wd30 hw) (by decide) rfl pd17 [(.ref b8)] rfl rfl at_62) (rmE0 l Z a0 hw ew x8 b8 _ X.old z_x8 E_x8 F_x8_value F_x8_coder _ V_b8) (wd30 hw) (wd2 hw) (leB rfl) (leB rfl) (leB rfl) (leB rfl) (allS (Or.inr s_x8) all0) rfl ?_
        intro T vm h L X K hC S_x8
        have Ob1 := (obj E_x8 (wd10 hw))
        replace S_x7 := S_x7.keep1 K ne_x7_x8 Ob1
        replace lt_x7 := Nat.lt_of_lt_of_le lt_x7 K.1
        replace E_x8 := E_x8.keep K
        replace lt_x8 := Nat.lt_of_lt_of_le lt_x8 K.1
        replace V_b8 := V_b8.keep K (ninS (Ne.symm ne_x8_b8) nin0)
        replace lt_b8 := Nat.lt_of_lt_of_le lt_b8 K.1
        refine X.astore (pc' := 67) #[.val (.int p1), .val (.int p2), .val (.int p3), .val (.int p4), .val (.int (0 : Int32)), .val (.int (1 : Int32)), .val (.int (0 : Int32)), .val (.ref x7), .val (.ref x8), .unset, .unset, .unset] at_65 rfl rfl rfl ?_
        refine X.goto (pc' := 109) at_67 (by decide) (by decide) ?_
        refine X.newO (pc' := 112) (wd44 hw) (wd45 hw) (wd46 hw) at_109 (by decide) (by decide) rfl ?_
        intro T h al g_al Ex lt_al E_al D_al X1
        have z_al : Z.heap.size ≤ al := by rw [g_al]; exact X.old.1
        have s_al : s.heap.size ≤ al := by rw [g_al]; exact X.kp.1
        have ne_x7_al : x7 ≠ al := Nat.ne_of_lt (by rw [g_al]; exact lt_x7)
        have ne_x8_al : x8 ≠ al := Nat.ne_of_lt (by rw [g_al]; exact lt_x8)
        replace lt_x7 := Nat.lt_of_lt_of_le lt_x7 Ex.1
        replace lt_x8 := Nat.lt_of_lt_of_le lt_x8 Ex.1
        replace S_x8 := S_x8.ext Ex
        replace X := X1
        have F_al_elementData : Fld Z h al "java/util/ArrayList" "elementData" "[Ljava/lang/Object;" .null := D_al (Or.inl (wd67 hw)) (ty := (.array (.object "java/lang/Object"))) (by decide)
        have F_al_size : Fld Z h al "java/util/ArrayList" "size" "I" (.int (0 : Int32)) := D_al (Or.inl (wd92 hw)) (ty := .int) (by decide)
        have F_al_modCount : Fld Z h al "java/util/AbstractList" "modCount" "I" (.int (0 : Int32)) := D_al (Or.inl (wd64 hw)) (ty := .int) (by decide)
        refine X.dup (pc' := 113) at_112 rfl rfl ?_
        refine X.callU (pc' := 116) (X.sSpecial rfl (wd47 hw) (wd48 hw) (wd49 hw) (by decide) rfl pd4 [] rfl rfl at_113) (rmALI l Z a0 hw al _ X.old d0 SD VD z_al ⟨E_al, F_al_elementData, F_al_size, F_al_modCount⟩) (wd49 hw) (wd46 hw) (leB rfl) (leB rfl) (leB rfl) (leB rfl) (sfS (Safe.exa X.al E_al (by decide) (by decide)) sf0) (allS z_al all0) (allS (Or.inr s_al) all0) rfl ?_
        intro T h L X K A_al
        have Ob1 := (obj E_al (wd45 hw))
        replace lt_x7 := Nat.lt_of_lt_of_le lt_x7 K.1
        replace lt_x8 := Nat.lt_of_lt_of_le lt_x8 K.1
        replace S_x8 := S_x8.keep1 K ne_x8_al Ob1
        replace E_al := E_al.keep K
        replace lt_al := Nat.lt_of_lt_of_le lt_al K.1
        refine X.astore (pc' := 118) #[.val (.int p1), .val (.int p2), .val (.int p3), .val (.int p4), .val (.int (0 : Int32)), .val (.int (1 : Int32)), .val (.int (0 : Int32)), .val (.ref x7), .val (.ref x8), .val (.ref al), .unset, .unset] at_116 rfl rfl rfl ?_
        refine X.iload (pc' := 120) at_118 rfl rfl ?_
        refine X.ifN (pc' := 123) at_120 (by decide) rfl ?_
        refine X.aload (pc' := 125) at_123 rfl rfl rfl ?_
        refine X.newO (pc' := 128) (wd68 hw) (wd69 hw) (wd70 hw) at_125 (by decide) (by decide) rfl ?_
        intro T h e0 g_e0 Ex lt_e0 E_e0 D_e0 X1
        have z_e0 : Z.heap.size ≤ e0 := by rw [g_e0]; exact X.old.1
        have s_e0 : s.heap.size ≤ e0 := by rw [g_e0]; exact X.kp.1
        have ne_x7_e0 : x7 ≠ e0 := Nat.ne_of_lt (by rw [g_e0]; exact lt_x7)
        have ne_x8_e0 : x8 ≠ e0 := Nat.ne_of_lt (by rw [g_e0]; exact lt_x8)
        have ne_al_e0 : al ≠ e0 := Nat.ne_of_lt (by rw [g_e0]; exact lt_al)
        replace lt_x7 := Nat.lt_of_lt_of_le lt_x7 Ex.1
        replace lt_x8 := Nat.lt_of_lt_of_le lt_x8 Ex.1
        replace S_x8 := S_x8.ext Ex
        replace lt_al := Nat.lt_of_lt_of_le lt_al Ex.1
        replace A_al := A_al.ext Ex
        replace X := X1
        have F_e0_text : Fld Z h e0 "com/example/treegraft/treegraft/brackets/Atom" "text" "Ljava/lang/String;" .null := D_e0 (Or.inr (wd81 hw)) (ty := (.object "java/lang/String")) (by decide)
        have F_e0_line : Fld Z h e0 "com/example/treegraft/treegraft/brackets/Atom" "line" "I" (.int (0 : Int32)) := D_e0 (Or.inr (wd83 hw)) (ty := .int) (by decide)
        refine X.dup (pc' := 129) at_128 rfl rfl ?_
        refine X.iloadN (pc' := 130) at_129 rfl rfl ?_
        refine X.bipush (pc' := 132) (8 : Int32) at_130 rfl rfl ?_
        refine X.iushr (pc' := 133) at_132 rfl ?_
        refine X.sipush (pc' := 136) (255 : Int32) at_133 rfl rfl ?_
        refine X.iand (pc' := 137) at_136 rfl ?_
        refine X.i2c (pc' := 138) at_137 rfl ?_
        generalize hc_q0 : ((((p3.toUInt32 >>> ((8 : Int32) &&& 31).toUInt32).toInt32) &&& (255 : Int32)).toUInt32.toUInt16.toUInt32.toInt32) = q0
        have r_q0 := chr255 hc_q0
        refine X.callV (pc' := 141) (X.sStatic (wd0 hw) (wd1 hw) (wd2 hw) (wd3 hw) (by decide) rfl pd16 [(.int q0)] rfl rfl at_138) (rmVOf l Z a0 hw q0 _ X.old z O2 hz r_q0.1) (wd3 hw) (wd2 hw) (leB rfl) (leB rfl) (leB rfl) (leB rfl) sf0 all0 all0 rfl ?_
        intro T h L v X K q
        obtain ⟨se0, rfl, le_se0, S_se0⟩ := q
        replace lt_x7 := Nat.lt_of_lt_of_le lt_x7 K.1
        replace lt_x8 := Nat.lt_of_lt_of_le lt_x8 K.1
        replace S_x8 := S_x8.keep0 K
        replace lt_al := Nat.lt_of_lt_of_le lt_al K.1
        replace A_al := A_al.keep K nin0
        replace E_e0 := E_e0.keep K
        replace lt_e0 := Nat.lt_of_lt_of_le lt_e0 K.1
        replace F_e0_text := F_e0_text.keep K nin0
        replace F_e0_line := F_e0_line.keep K nin0
        have lt_se0 := S_se0.lt
        refine X.iloadN (pc' := 142) at_141 rfl rfl ?_
        refine X.callU (pc' := 145) (X.sSpecial rfl (wd71 hw) (wd72 hw) (wd73 hw) (by decide) rfl pd18 [(.ref se0), (.int p4)] rfl rfl at_142) (rmAtom l Z a0 hw e0 (.ref se0) rfl p4 _ X.old  z_e0 E_e0 F_e0_text F_e0_line) (wd73 hw) (wd70 hw) (leB rfl) (leB rfl) (leB rfl) (leB rfl) (sfS (Safe.exa X.al E_e0 (by decide) (by decide)) sf0) (allS z_e0 all0) (allS (Or.inr s_e0) all0) rfl ?_
        intro T h L X K q
        have Ob1 := (obj E_e0 (wd69 hw))
        replace lt_x7 := Nat.lt_of_lt_of_le lt_x7 K.1
        replace lt_x8 := Nat.lt_of_lt_of_le lt_x8 K.1
        replace S_x8 := S_x8.keep1 K ne_x8_e0 Ob1
        replace lt_al := Nat.lt_of_lt_of_le lt_al K.1
        replace A_al := A_al.keep K (ninS ne_al_e0 nin0)
        replace E_e0 := E_e0.keep K
        replace lt_e0 := Nat.lt_of_lt_of_le lt_e0 K.1
        replace lt_se0 := Nat.lt_of_lt_of_le lt_se0 K.1
        obtain ⟨_, F_e0_text, F_e0_line⟩ := q
        have zo := X.old.1
        have so := X.kp.1
        refine X.callV (pc' := 148) (X.sVirtual (wd84 hw) (wd85 hw) (wd87 hw) (wd86 hw) (by decide) rfl pd19 A_al.1 [(.ref e0)] rfl rfl at_145 (X.nf (wd87 hw) rfl)) (rmAddF l Z a0 hw al e0 _ X.old d0 SD VD z_al _ A_al _ (wd114 hw) E_e0) (wd88 hw) (wd46 hw) (leB rfl) (leB rfl) (leB rfl) (leB rfl) (sfS (Safe.exa X.al A_al.1 (by decide) (by decide)) sf0) (allS z_al all0) (allS (Or.inr s_al) all0) rfl ?_
        intro T h L v X K q
        obtain ⟨rfl, ld, le_ld, A_n, V_ld⟩ := q
        have ne_x7_ld : x7 ≠ ld := Nat.ne_of_lt (Nat.lt_of_lt_of_le lt_x7 le_ld)
        have ne_x8_ld : x8 ≠ ld := Nat.ne_of_lt (Nat.lt_of_lt_of_le lt_x8 le_ld)
        have ne_al_ld : al ≠ ld := Nat.ne_of_lt (Nat.lt_of_lt_of_le lt_al le_ld)
        have ne_e0_ld : e0 ≠ ld := Nat.ne_of_lt (Nat.lt_of_lt_of_le lt_e0 le_ld)
        have ne_se0_ld : se0 ≠ ld := Nat.ne_of_lt (Nat.lt_of_lt_of_le lt_se0 le_ld)
        have z_ld := Nat.le_trans zo le_ld
        have s_ld := Nat.le_trans so le_ld
        have Ob1 := (obj A_al.1 (wd45 hw))
        replace lt_x7 := Nat.lt_of_lt_of_le lt_x7 K.1
        replace lt_x8 := Nat.lt_of_lt_of_le lt_x8 K.1
        replace S_x8 := S_x8.keep1 K ne_x8_al Ob1
        replace lt_al := Nat.lt_of_lt_of_le lt_al K.1
        replace E_e0 := E_e0.keep K
        replace lt_e0 := Nat.lt_of_lt_of_le lt_e0 K.1
        replace lt_se0 := Nat.lt_of_lt_of_le lt_se0 K.1
        replace A_al := A_n
        have lt_ld := V_ld.lt
        refine X.pop (pc' := 149) at_148 rfl rfl ?_
        refine X.iload (pc' := 151) at_149 rfl rfl ?_
        refine X.ifY (pc' := 180) at_151 (by decide) (by decide) (by decide) ?_
        refine X.newO (pc' := 183) (wd115 hw) (wd116 hw) (wd117 hw) at_180 (by decide) (by decide) rfl ?_
        intro T h br g_br Ex lt_br E_br D_br X1
        have z_br : Z.heap.size ≤ br := by rw [g_br]; exact X.old.1
        have s_br : s.heap.size ≤ br := by rw [g_br]; exact X.kp.1
        have ne_x7_br : x7 ≠ br := Nat.ne_of_lt (by rw [g_br]; exact lt_x7)
        have ne_x8_br : x8 ≠ br := Nat.ne_of_lt (by rw [g_br]; exact lt_x8)
        have ne_al_br : al ≠ br := Nat.ne_of_lt (by rw [g_br]; exact lt_al)
        have ne_e0_br : e0 ≠ br := Nat.ne_of_lt (by rw [g_br]; exact lt_e0)
        have ne_se0_br : se0 ≠ br := Nat.ne_of_lt (by rw [g_br]; exact lt_se0)
        have ne_ld_br : ld ≠ br := Nat.ne_of_lt (by rw [g_br]; exact lt_ld)
        replace lt_x7 := Nat.lt_of_lt_of_le lt_x7 Ex.1
        replace lt_x8 := Nat.lt_of_lt_of_le lt_x8 Ex.1
        replace lt_al := Nat.lt_of_lt_of_le lt_al Ex.1
        replace E_e0 := E_e0.ext Ex
        replace lt_e0 := Nat.lt_of_lt_of_le lt_e0 Ex.1
        replace lt_se0 := Nat.lt_of_lt_of_le lt_se0 Ex.1
        replace A_al := A_al.ext Ex
        replace V_ld := V_ld.ext Ex
        replace lt_ld := Nat.lt_of_lt_of_le lt_ld Ex.1
        replace X := X1
        have F_br_label : Fld Z h br "com/example/treegraft/treegraft/brackets/Bracket" "label" "Ljava/lang/String;" .null := D_br (Or.inr (wd220 hw)) (ty := (.object "java/lang/String")) (by decide)
        have F_br_word : Fld Z h br "com/example/treegraft/treegraft/brackets/Bracket" "word" "Ljava/lang/String;" .null := D_br (Or.inr (wd222 hw)) (ty := (.object "java/lang/String")) (by decide)
        have F_br_children : Fld Z h br "com/example/treegraft/treegraft/brackets/Bracket" "children" "Ljava/util/List;" .null := D_br (Or.inr (wd224 hw)) (ty := (.object "java/util/List")) (by decide)
        have F_br_line : Fld Z h br "com/example/treegraft/treegraft/brackets/Bracket" "line" "I" (.int (0 : Int32)) := D_br (Or.inr (wd226 hw)) (ty := .int) (by decide)
        refine X.dup (pc' := 184) at_183 rfl rfl ?_
        refine X.aload (pc' := 186) at_184 rfl rfl rfl ?_
        refine X.iload (pc' := 188) at_186 rfl rfl ?_
        refine X.ifY (pc' := 196) at_188 (by decide) (by decide) (by decide) ?_
        refine X.aconstNull (pc' := 197) at_196 rfl ?_
        refine X.aload (pc' := 199) at_197 rfl rfl rfl ?_
        refine X.iloadN (pc' := 200) at_199 rfl rfl ?_
        refine X.callU (pc' := 203) (X.sSpecial rfl (wd118 hw) (wd119 hw) (wd120 hw) (by decide) rfl pd20 [(.ref x7), .null, (.ref al), (.int p4)] rfl rfl at_200) (rmBrN1 l Z a0 hw br (.ref x7) rfl al p4 _ X.old mo M_o ma M_a mu M_u mr M_r z_br E_br F_br_label F_br_word F_br_children F_br_line ld ne_al_br ne_ld_br _ A_al e0 _ (wd114 hw) E_e0 V_ld) (wd120 hw) (wd117 hw) (leB rfl) (leB rfl) (leB rfl) (leB rfl) (sfS (Safe.exa X.al E_br (by decide) (by decide)) sf0) (allS z_br all0) (allS (Or.inr s_br) all0) rfl ?_
        intro T h L X K q
        obtain ⟨u, nl, r, E_br, F_br_label, F_br_word, F_br_children, F_br_line, U, A_nl⟩ := q
        refine X.astore (pc' := 205) #[.val (.int p1), .val (.int p2), .val (.int p3), .val (.int p4), .val (.int (0 : Int32)), .val (.int (1 : Int32)), .val (.int (0 : Int32)), .val (.ref x7), .val (.ref x8), .val (.ref al), .val (.ref br), .unset] at_203 rfl rfl rfl ?_
        refine X.aload (pc' := 207) at_205 rfl rfl rfl ?_
        refine X.callP (pc' := 210) (X.sVirtual (wd227 hw) (wd228 hw) (wd230 hw) (wd229 hw) (by decide) rfl pd13 E_br [] rfl rfl at_207 (X.nf (wd230 hw) rfl)) (rmIsW0 l Z a0 hw br _ X.old F_br_word) (wd231 hw) (wd117 hw) (leB rfl) (leB rfl) (leB rfl) (leB rfl) rfl ?_
        intro T L v X q
        subst q
        refine X.istore (pc' := 212) #[.val (.int p1), .val (.int p2), .val (.int p3), .val (.int p4), .val (.int (0 : Int32)), .val (.int (1 : Int32)), .val (.int (0 : Int32)), .val (.ref x7), .val (.ref x8), .val (.ref al), .val (.ref br), .val (.int (0 : Int32))] at_210 rfl rfl ?_
        refine X.iload (pc' := 214) at_212 rfl rfl ?_
        refine X.iload (pc' := 216) at_214 rfl rfl ?_
        refine X.icN (pc' := 219) at_216 (by decide) rfl ?_
        refine X.iload (pc' := 221) at_219 rfl rfl ?_
        refine X.aload (pc' := 223) at_221 rfl rfl rfl ?_
        refine X.callP (pc' := 226) (X.sVirtual (wd232 hw) (wd233 hw) (wd235 hw) (wd234 hw) (by decide) rfl pd21 E_br [] rfl rfl at_223 (X.nf (wd230 hw) rfl)) (rmWord l Z a0 hw br _ X.old .null rfl F_br_word) (wd236 hw) (wd117 hw) (leB rfl) (leB rfl) (leB rfl) (leB rfl) rfl ?_
        intro T L v X q
        subst q
        refine X.nullY (pc' := 233) at_226 (by decide) (by decide) ?_
        refine X.iconst (pc' := 234) (0 : Int32) at_233 rfl rfl ?_
        refine X.icN (pc' := 237) at_234 (by decide) rfl ?_
        refine X.iload (pc' := 239) at_237 rfl rfl ?_
        refine X.aload (pc' := 241) at_239 rfl rfl rfl ?_
        refine X.callP (pc' := 244) (X.sVirtual (wd237 hw) (wd238 hw) (wd240 hw) (wd239 hw) (by decide) rfl pd14 E_br [] rfl rfl at_241 (X.nf (wd230 hw) rfl)) (rmCh l Z a0 hw br _ X.old (.ref u) rfl F_br_children) (wd241 hw) (wd117 hw) (leB rfl) (leB rfl) (leB rfl) (leB rfl) rfl ?_
        intro T L v X q
        subst q
        rcases U with hu | hu
        · have A_u : AL Z h u (.ref r) (1 : Int32) 0 := by rw [hu]; exact A_nl
          refine X.callP (pc' := 249) (X.sFace (y := (⟨"java/util/ArrayList", "isEmpty", "()Z"⟩ : MethodName)) (wd242 hw) (wd123 hw) (wd124 hw) rfl (wd125 hw) (wd126 hw) (wd127 hw) (wd128 hw) (wd129 hw) (by decide) rfl pd13 A_u.1 [] rfl rfl at_244) (rmIsEN l Z a0 hw u _ X.old (1 : Int32) (by decide) _ _ A_u) (wd130 hw) (wd46 hw) (leB rfl) (leB rfl) (leB rfl) (leB rfl) rfl ?_
          intro T L v X q
          subst q
          refine X.icN (pc' := 252) at_249 (by decide) rfl ?_
          refine X.aload (pc' := 254) at_252 rfl rfl rfl ?_
          refine X.callP (pc' := 257) (X.sVirtual (wd243 hw) (wd244 hw) (wd246 hw) (wd245 hw) (by decide) rfl pd22 E_br [] rfl rfl at_254 (X.nf (wd230 hw) rfl)) (rmLine l Z a0 hw br _ X.old p4 rfl F_br_line) (wd247 hw) (wd117 hw) (leB rfl) (leB rfl) (leB rfl) (leB rfl) rfl ?_
          intro T L v X q
          subst q
          refine X.iloadN (pc' := 258) at_257 rfl rfl ?_
          refine X.icN (pc' := 261) at_258 ((teq rfl).2) rfl ?_
          refine X.iconst (pc' := 262) (1 : Int32) at_261 rfl rfl ?_
          refine X.goto (pc' := 266) at_262 (by decide) (by decide) ?_
          exact X.retIC (by simp) rfl at_266 (by decide) (by decide) ⟨_, rfl, rfl⟩
        · refine X.callP (pc' := 249) (X.sFace (y := (⟨"java/util/Collections$UnmodifiableCollection", "isEmpty", "()Z"⟩ : MethodName)) (wd242 hw) (wd123 hw) (wd124 hw) rfl (wd209 hw) (wd210 hw) (wd211 hw) (wd212 hw) (wd213 hw) (by decide) rfl pd13 hu.1 [] rfl rfl at_244) (rmUIsE l Z a0 hw u _ X.old nl _ hu (1 : Int32) (by decide) _ _ A_nl) (wd214 hw) (wd202 hw) (leB rfl) (leB rfl) (leB rfl) (leB rfl) rfl ?_
          intro T L v X q
          subst q
          refine X.icN (pc' := 252) at_249 (by decide) rfl ?_
          refine X.aload (pc' := 254) at_252 rfl rfl rfl ?_
          refine X.callP (pc' := 257) (X.sVirtual (wd243 hw) (wd244 hw) (wd246 hw) (wd245 hw) (by decide) rfl pd22 E_br [] rfl rfl at_254 (X.nf (wd230 hw) rfl)) (rmLine l Z a0 hw br _ X.old p4 rfl F_br_line) (wd247 hw) (wd117 hw) (leB rfl) (leB rfl) (leB rfl) (leB rfl) rfl ?_
          intro T L v X q
          subst q
          refine X.iloadN (pc' := 258) at_257 rfl rfl ?_
          refine X.icN (pc' := 261) at_258 ((teq rfl).2) rfl ?_
          refine X.iconst (pc' := 262) (1 : Int32) at_261 rfl rfl ?_
          refine X.goto (pc' := 266) at_262 (by decide) (by decide) ?_
          exact X.retIC (by simp) rfl at_266 (by decide) (by decide) ⟨_, rfl, rfl⟩
      · refine X.ifN (pc' := 32) at_29 ((if0 _ _).trans (feq hq2).1) rfl ?_
        refine X.iconst (pc' := 33) (1 : Int32) at_32 rfl rfl ?_
        refine X.goto (pc' := 37) at_33 (by decide) (by decide) ?_
        refine X.istore (pc' := 39) #[.val (.int p1), .val (.int p2), .val (.int p3), .val (.int p4), .val (.int (0 : Int32)), .val (.int (1 : Int32)), .val (.int (1 : Int32)), .unset, .unset, .unset, .unset, .unset] at_37 rfl rfl ?_
        refine X.iloadN (pc' := 40) at_39 rfl rfl ?_
        refine X.sipush (pc' := 43) (255 : Int32) at_40 rfl rfl ?_
        refine X.iand (pc' := 44) at_43 rfl ?_
        refine X.i2c (pc' := 45) at_44 rfl ?_
        generalize hc_c7 : ((p2 &&& (255 : Int32)).toUInt32.toUInt16.toUInt32.toInt32) = c7
        have r_c7 := chr255 hc_c7
        refine X.callV (pc' := 48) (X.sStatic (wd0 hw) (wd1 hw) (wd2 hw) (wd3 hw) (by decide) rfl pd16 [(.int c7)] rfl rfl at_45) (rmVOf l Z a0 hw c7 _ X.old z O2 hz r_c7.1) (wd3 hw) (wd2 hw) (leB rfl) (leB rfl) (leB rfl) (leB rfl) sf0 all0 all0 rfl ?_
        intro T h L v X K q
        obtain ⟨x7, rfl, le_x7, S_x7⟩ := q
        have lt_x7 := S_x7.lt
        refine X.astore (pc' := 50) #[.val (.int p1), .val (.int p2), .val (.int p3), .val (.int p4), .val (.int (0 : Int32)), .val (.int (1 : Int32)), .val (.int (1 : Int32)), .val (.ref x7), .unset, .unset, .unset, .unset] at_48 rfl rfl rfl ?_
        refine X.iload (pc' := 52) at_50 rfl rfl ?_
        refine X.ifN (pc' := 55) at_52 (by decide) rfl ?_
        refine X.newO (pc' := 58) (wd27 hw) (wd10 hw) (wd2 hw) at_55 (by decide) (by decide) rfl ?_
        intro T h x8 g_x8 Ex lt_x8 E_x8 D_x8 X1
        have z_x8 : Z.heap.size ≤ x8 := by rw [g_x8]; exact X.old.1
        have s_x8 : s.heap.size ≤ x8 := by rw [g_x8]; exact X.kp.1
        have ne_x7_x8 : x7 ≠ x8 := Nat.ne_of_lt (by rw [g_x8]; exact lt_x7)
        replace S_x7 := S_x7.ext Ex
        replace lt_x7 := Nat.lt_of_lt_of_le lt_x7 Ex.1
        replace X := X1
        have F_x8_value : Fld Z h x8 "java/lang/String" "value" "[B" .null := D_x8 (Or.inr (wd23 hw)) (ty := (.array .byte)) (by decide)
        have F_x8_coder : Fld Z h x8 "java/lang/String" "coder" "B" (.int (0 : Int32)) := D_x8 (Or.inr (wd25 hw)) (ty := .byte) (by decide)
        refine X.dup (pc' := 59) at_58 rfl rfl ?_
        refine X.iconst (pc' := 60) (0 : Int32) at_59 rfl rfl ?_
        refine X.newP (pc' := 62) (aty := .char) (wd26 hw) at_60 (by decide) 0 (by decide) (by decide) (by decide) (by decide) rfl ?_
        intro T h b8 ka_b8 g_b8 Ex lt_b8 V_b8 X1
        have z_b8 : Z.heap.size ≤ b8 := by rw [g_b8]; exact X.old.1
        have s_b8 : s.heap.size ≤ b8 := by rw [g_b8]; exact X.kp.1
        have ne_x7_b8 : x7 ≠ b8 := Nat.ne_of_lt (by rw [g_b8]; exact lt_x7)
        have ne_x8_b8 : x8 ≠ b8 := Nat.ne_of_lt (by rw [g_b8]; exact lt_x8)
        replace S_x7 := S_x7.ext Ex
        replace lt_x7 := Nat.lt_of_lt_of_le lt_x7 Ex.1
        replace E_x8 := E_x8.ext Ex
        replace lt_x8 := Nat.lt_of_lt_of_le lt_x8 Ex.1
        replace F_x8_value := F_x8_value.ext Ex
        replace F_x8_coder := F_x8_coder.ext Ex
        replace X := X1
        replace V_b8 : Arv Z h b8 ka_b8 .char (0 : Int32) [] (.int (0 : Int32)) := (Arv.pad V_b8 (pad_rep [] (.int (0 : Int32)) 0))
        refine X.coldU (pc' := 65) (X.sSpecial rfl (wd28 hw) (wd29 hw) (wd30 hw) (by decide) rfl pd17 [(.ref b8)] rfl rfl at_62) (rmE0 l Z a0 hw ew x8 b8 _ X.old z_x8 E_x8 F_x8_value F_x8_coder _ V_b8) (wd30 hw) (wd2 hw) (leB rfl) (leB rfl) (leB rfl) (leB rfl) (allS (Or.inr s_x8) all0) rfl ?_
        intro T vm h L X K hC S_x8
        have Ob1 := (obj E_x8 (wd10 hw))
        replace S_x7 := S_x7.keep1 K ne_x7_x8 Ob1
        replace lt_x7 := Nat.lt_of_lt_of_le lt_x7 K.1
        replace E_x8 := E_x8.keep K
        replace lt_x8 := Nat.lt_of_lt_of_le lt_x8 K.1
        replace V_b8 := V_b8.keep K (ninS (Ne.symm ne_x8_b8) nin0)
        replace lt_b8 := Nat.lt_of_lt_of_le lt_b8 K.1
        refine X.astore (pc' := 67) #[.val (.int p1), .val (.int p2), .val (.int p3), .val (.int p4), .val (.int (0 : Int32)), .val (.int (1 : Int32)), .val (.int (1 : Int32)), .val (.ref x7), .val (.ref x8), .unset, .unset, .unset] at_65 rfl rfl rfl ?_
        refine X.goto (pc' := 109) at_67 (by decide) (by decide) ?_
        refine X.newO (pc' := 112) (wd44 hw) (wd45 hw) (wd46 hw) at_109 (by decide) (by decide) rfl ?_
        intro T h al g_al Ex lt_al E_al D_al X1
        have z_al : Z.heap.size ≤ al := by rw [g_al]; exact X.old.1
        have s_al : s.heap.size ≤ al := by rw [g_al]; exact X.kp.1
        have ne_x7_al : x7 ≠ al := Nat.ne_of_lt (by rw [g_al]; exact lt_x7)
        have ne_x8_al : x8 ≠ al := Nat.ne_of_lt (by rw [g_al]; exact lt_x8)
        replace lt_x7 := Nat.lt_of_lt_of_le lt_x7 Ex.1
        replace lt_x8 := Nat.lt_of_lt_of_le lt_x8 Ex.1
        replace S_x8 := S_x8.ext Ex
        replace X := X1
        have F_al_elementData : Fld Z h al "java/util/ArrayList" "elementData" "[Ljava/lang/Object;" .null := D_al (Or.inl (wd67 hw)) (ty := (.array (.object "java/lang/Object"))) (by decide)
        have F_al_size : Fld Z h al "java/util/ArrayList" "size" "I" (.int (0 : Int32)) := D_al (Or.inl (wd92 hw)) (ty := .int) (by decide)
        have F_al_modCount : Fld Z h al "java/util/AbstractList" "modCount" "I" (.int (0 : Int32)) := D_al (Or.inl (wd64 hw)) (ty := .int) (by decide)
        refine X.dup (pc' := 113) at_112 rfl rfl ?_
        refine X.callU (pc' := 116) (X.sSpecial rfl (wd47 hw) (wd48 hw) (wd49 hw) (by decide) rfl pd4 [] rfl rfl at_113) (rmALI l Z a0 hw al _ X.old d0 SD VD z_al ⟨E_al, F_al_elementData, F_al_size, F_al_modCount⟩) (wd49 hw) (wd46 hw) (leB rfl) (leB rfl) (leB rfl) (leB rfl) (sfS (Safe.exa X.al E_al (by decide) (by decide)) sf0) (allS z_al all0) (allS (Or.inr s_al) all0) rfl ?_
        intro T h L X K A_al
        have Ob1 := (obj E_al (wd45 hw))
        replace lt_x7 := Nat.lt_of_lt_of_le lt_x7 K.1
        replace lt_x8 := Nat.lt_of_lt_of_le lt_x8 K.1
        replace S_x8 := S_x8.keep1 K ne_x8_al Ob1
        replace E_al := E_al.keep K
        replace lt_al := Nat.lt_of_lt_of_le lt_al K.1
        refine X.astore (pc' := 118) #[.val (.int p1), .val (.int p2), .val (.int p3), .val (.int p4), .val (.int (0 : Int32)), .val (.int (1 : Int32)), .val (.int (1 : Int32)), .val (.ref x7), .val (.ref x8), .val (.ref al), .unset, .unset] at_116 rfl rfl rfl ?_
        refine X.iload (pc' := 120) at_118 rfl rfl ?_
        refine X.ifN (pc' := 123) at_120 (by decide) rfl ?_
        refine X.aload (pc' := 125) at_123 rfl rfl rfl ?_
        refine X.newO (pc' := 128) (wd68 hw) (wd69 hw) (wd70 hw) at_125 (by decide) (by decide) rfl ?_
        intro T h e0 g_e0 Ex lt_e0 E_e0 D_e0 X1
        have z_e0 : Z.heap.size ≤ e0 := by rw [g_e0]; exact X.old.1
        have s_e0 : s.heap.size ≤ e0 := by rw [g_e0]; exact X.kp.1
        have ne_x7_e0 : x7 ≠ e0 := Nat.ne_of_lt (by rw [g_e0]; exact lt_x7)
        have ne_x8_e0 : x8 ≠ e0 := Nat.ne_of_lt (by rw [g_e0]; exact lt_x8)
        have ne_al_e0 : al ≠ e0 := Nat.ne_of_lt (by rw [g_e0]; exact lt_al)
        replace lt_x7 := Nat.lt_of_lt_of_le lt_x7 Ex.1
        replace lt_x8 := Nat.lt_of_lt_of_le lt_x8 Ex.1
        replace S_x8 := S_x8.ext Ex
        replace lt_al := Nat.lt_of_lt_of_le lt_al Ex.1
        replace A_al := A_al.ext Ex
        replace X := X1
        have F_e0_text : Fld Z h e0 "com/example/treegraft/treegraft/brackets/Atom" "text" "Ljava/lang/String;" .null := D_e0 (Or.inr (wd81 hw)) (ty := (.object "java/lang/String")) (by decide)
        have F_e0_line : Fld Z h e0 "com/example/treegraft/treegraft/brackets/Atom" "line" "I" (.int (0 : Int32)) := D_e0 (Or.inr (wd83 hw)) (ty := .int) (by decide)
        refine X.dup (pc' := 129) at_128 rfl rfl ?_
        refine X.iloadN (pc' := 130) at_129 rfl rfl ?_
        refine X.bipush (pc' := 132) (8 : Int32) at_130 rfl rfl ?_
        refine X.iushr (pc' := 133) at_132 rfl ?_
        refine X.sipush (pc' := 136) (255 : Int32) at_133 rfl rfl ?_
        refine X.iand (pc' := 137) at_136 rfl ?_
        refine X.i2c (pc' := 138) at_137 rfl ?_
        generalize hc_q0 : ((((p3.toUInt32 >>> ((8 : Int32) &&& 31).toUInt32).toInt32) &&& (255 : Int32)).toUInt32.toUInt16.toUInt32.toInt32) = q0
        have r_q0 := chr255 hc_q0
        refine X.callV (pc' := 141) (X.sStatic (wd0 hw) (wd1 hw) (wd2 hw) (wd3 hw) (by decide) rfl pd16 [(.int q0)] rfl rfl at_138) (rmVOf l Z a0 hw q0 _ X.old z O2 hz r_q0.1) (wd3 hw) (wd2 hw) (leB rfl) (leB rfl) (leB rfl) (leB rfl) sf0 all0 all0 rfl ?_
        intro T h L v X K q
        obtain ⟨se0, rfl, le_se0, S_se0⟩ := q
        replace lt_x7 := Nat.lt_of_lt_of_le lt_x7 K.1
        replace lt_x8 := Nat.lt_of_lt_of_le lt_x8 K.1
        replace S_x8 := S_x8.keep0 K
        replace lt_al := Nat.lt_of_lt_of_le lt_al K.1
        replace A_al := A_al.keep K nin0
        replace E_e0 := E_e0.keep K
        replace lt_e0 := Nat.lt_of_lt_of_le lt_e0 K.1
        replace F_e0_text := F_e0_text.keep K nin0
        replace F_e0_line := F_e0_line.keep K nin0
        have lt_se0 := S_se0.lt
        refine X.iloadN (pc' := 142) at_141 rfl rfl ?_
        refine X.callU (pc' := 145) (X.sSpecial rfl (wd71 hw) (wd72 hw) (wd73 hw) (by decide) rfl pd18 [(.ref se0), (.int p4)] rfl rfl at_142) (rmAtom l Z a0 hw e0 (.ref se0) rfl p4 _ X.old  z_e0 E_e0 F_e0_text F_e0_line) (wd73 hw) (wd70 hw) (leB rfl) (leB rfl) (leB rfl) (leB rfl) (sfS (Safe.exa X.al E_e0 (by decide) (by decide)) sf0) (allS z_e0 all0) (allS (Or.inr s_e0) all0) rfl ?_
        intro T h L X K q
        have Ob1 := (obj E_e0 (wd69 hw))
        replace lt_x7 := Nat.lt_of_lt_of_le lt_x7 K.1
        replace lt_x8 := Nat.lt_of_lt_of_le lt_x8 K.1
        replace S_x8 := S_x8.keep1 K ne_x8_e0 Ob1
        replace lt_al := Nat.lt_of_lt_of_le lt_al K.1
        replace A_al := A_al.keep K (ninS ne_al_e0 nin0)
        replace E_e0 := E_e0.keep K
        replace lt_e0 := Nat.lt_of_lt_of_le lt_e0 K.1
        replace lt_se0 := Nat.lt_of_lt_of_le lt_se0 K.1
        obtain ⟨_, F_e0_text, F_e0_line⟩ := q
        have zo := X.old.1
        have so := X.kp.1
        refine X.callV (pc' := 148) (X.sVirtual (wd84 hw) (wd85 hw) (wd87 hw) (wd86 hw) (by decide) rfl pd19 A_al.1 [(.ref e0)] rfl rfl at_145 (X.nf (wd87 hw) rfl)) (rmAddF l Z a0 hw al e0 _ X.old d0 SD VD z_al _ A_al _ (wd114 hw) E_e0) (wd88 hw) (wd46 hw) (leB rfl) (leB rfl) (leB rfl) (leB rfl) (sfS (Safe.exa X.al A_al.1 (by decide) (by decide)) sf0) (allS z_al all0) (allS (Or.inr s_al) all0) rfl ?_
        intro T h L v X K q
        obtain ⟨rfl, ld, le_ld, A_n, V_ld⟩ := q
        have ne_x7_ld : x7 ≠ ld := Nat.ne_of_lt (Nat.lt_of_lt_of_le lt_x7 le_ld)
        have ne_x8_ld : x8 ≠ ld := Nat.ne_of_lt (Nat.lt_of_lt_of_le lt_x8 le_ld)
        have ne_al_ld : al ≠ ld := Nat.ne_of_lt (Nat.lt_of_lt_of_le lt_al le_ld)
        have ne_e0_ld : e0 ≠ ld := Nat.ne_of_lt (Nat.lt_of_lt_of_le lt_e0 le_ld)
        have ne_se0_ld : se0 ≠ ld := Nat.ne_of_lt (Nat.lt_of_lt_of_le lt_se0 le_ld)
        have z_ld := Nat.le_trans zo le_ld
        have s_ld := Nat.le_trans so le_ld
        have Ob1 := (obj A_al.1 (wd45 hw))
        replace lt_x7 := Nat.lt_of_lt_of_le lt_x7 K.1
        replace lt_x8 := Nat.lt_of_lt_of_le lt_x8 K.1
        replace S_x8 := S_x8.keep1 K ne_x8_al Ob1
        replace lt_al := Nat.lt_of_lt_of_le lt_al K.1
        replace E_e0 := E_e0.keep K
        replace lt_e0 := Nat.lt_of_lt_of_le lt_e0 K.1
        replace lt_se0 := Nat.lt_of_lt_of_le lt_se0 K.1
        replace A_al := A_n
        have lt_ld := V_ld.lt
        refine X.pop (pc' := 149) at_148 rfl rfl ?_
        refine X.iload (pc' := 151) at_149 rfl rfl ?_
        refine X.ifN (pc' := 154) at_151 (by decide) rfl ?_
        refine X.aload (pc' := 156) at_154 rfl rfl rfl ?_
        refine X.newO (pc' := 159) (wd68 hw) (wd69 hw) (wd70 hw) at_156 (by decide) (by decide) rfl ?_
        intro T h e1 g_e1 Ex lt_e1 E_e1 D_e1 X1
        have z_e1 : Z.heap.size ≤ e1 := by rw [g_e1]; exact X.old.1
        have s_e1 : s.heap.size ≤ e1 := by rw [g_e1]; exact X.kp.1
        have ne_x7_e1 : x7 ≠ e1 := Nat.ne_of_lt (by rw [g_e1]; exact lt_x7)
        have ne_x8_e1 : x8 ≠ e1 := Nat.ne_of_lt (by rw [g_e1]; exact lt_x8)
        have ne_al_e1 : al ≠ e1 := Nat.ne_of_lt (by rw [g_e1]; exact lt_al)
        have ne_e0_e1 : e0 ≠ e1 := Nat.ne_of_lt (by rw [g_e1]; exact lt_e0)
        have ne_se0_e1 : se0 ≠ e1 := Nat.ne_of_lt (by rw [g_e1]; exact lt_se0)
        have ne_ld_e1 : ld ≠ e1 := Nat.ne_of_lt (by rw [g_e1]; exact lt_ld)
        replace lt_x7 := Nat.lt_of_lt_of_le lt_x7 Ex.1
        replace lt_x8 := Nat.lt_of_lt_of_le lt_x8 Ex.1
        replace S_x8 := S_x8.ext Ex
        replace lt_al := Nat.lt_of_lt_of_le lt_al Ex.1
        replace E_e0 := E_e0.ext Ex
        replace lt_e0 := Nat.lt_of_lt_of_le lt_e0 Ex.1
        replace lt_se0 := Nat.lt_of_lt_of_le lt_se0 Ex.1
        replace A_al := A_al.ext Ex
        replace V_ld := V_ld.ext Ex
        replace lt_ld := Nat.lt_of_lt_of_le lt_ld Ex.1
        replace X := X1
        have F_e1_text : Fld Z h e1 "com/example/treegraft/treegraft/brackets/Atom" "text" "Ljava/lang/String;" .null := D_e1 (Or.inr (wd81 hw)) (ty := (.object "java/lang/String")) (by decide)
        have F_e1_line : Fld Z h e1 "com/example/treegraft/treegraft/brackets/Atom" "line" "I" (.int (0 : Int32)) := D_e1 (Or.inr (wd83 hw)) (ty := .int) (by decide)
        refine X.dup (pc' := 160) at_159 rfl rfl ?_
        refine X.iloadN (pc' := 161) at_160 rfl rfl ?_
        refine X.bipush (pc' := 163) (16 : Int32) at_161 rfl rfl ?_
        refine X.iushr (pc' := 164) at_163 rfl ?_
        refine X.sipush (pc' := 167) (255 : Int32) at_164 rfl rfl ?_
        refine X.iand (pc' := 168) at_167 rfl ?_
        refine X.i2c (pc' := 169) at_168 rfl ?_
        generalize hc_q1 : ((((p3.toUInt32 >>> ((16 : Int32) &&& 31).toUInt32).toInt32) &&& (255 : Int32)).toUInt32.toUInt16.toUInt32.toInt32) = q1
        have r_q1 := chr255 hc_q1
        refine X.callV (pc' := 172) (X.sStatic (wd0 hw) (wd1 hw) (wd2 hw) (wd3 hw) (by decide) rfl pd16 [(.int q1)] rfl rfl at_169) (rmVOf l Z a0 hw q1 _ X.old z O2 hz r_q1.1) (wd3 hw) (wd2 hw) (leB rfl) (leB rfl) (leB rfl) (leB rfl) sf0 all0 all0 rfl ?_
        intro T h L v X K q
        obtain ⟨se1, rfl, le_se1, S_se1⟩ := q
        replace lt_x7 := Nat.lt_of_lt_of_le lt_x7 K.1
        replace lt_x8 := Nat.lt_of_lt_of_le lt_x8 K.1
        replace S_x8 := S_x8.keep0 K
        replace lt_al := Nat.lt_of_lt_of_le lt_al K.1
        replace E_e0 := E_e0.keep K
        replace lt_e0 := Nat.lt_of_lt_of_le lt_e0 K.1
        replace lt_se0 := Nat.lt_of_lt_of_le lt_se0 K.1
        replace A_al := A_al.keep K nin0
        replace V_ld := V_ld.keep K nin0
        replace lt_ld := Nat.lt_of_lt_of_le lt_ld K.1
        replace E_e1 := E_e1.keep K
        replace lt_e1 := Nat.lt_of_lt_of_le lt_e1 K.1
        replace F_e1_text := F_e1_text.keep K nin0
        replace F_e1_line := F_e1_line.keep K nin0
        have lt_se1 := S_se1.lt
        refine X.iloadN (pc' := 173) at_172 rfl rfl ?_
        refine X.callU (pc' := 176) (X.sSpecial rfl (wd71 hw) (wd72 hw) (wd73 hw) (by decide) rfl pd18 [(.ref se1), (.int p4)] rfl rfl at_173) (rmAtom l Z a0 hw e1 (.ref se1) rfl p4 _ X.old  z_e1 E_e1 F_e1_text F_e1_line) (wd73 hw) (wd70 hw) (leB rfl) (leB rfl) (leB rfl) (leB rfl) (sfS (Safe.exa X.al E_e1 (by decide) (by decide)) sf0) (allS z_e1 all0) (allS (Or.inr s_e1) all0) rfl ?_
        intro T h L X K q
        have Ob1 := (obj E_e1 (wd69 hw))
        replace lt_x7 := Nat.lt_of_lt_of_le lt_x7 K.1
        replace lt_x8 := Nat.lt_of_lt_of_le lt_x8 K.1
        replace S_x8 := S_x8.keep1 K ne_x8_e1 Ob1
        replace lt_al := Nat.lt_of_lt_of_le lt_al K.1
        replace E_e0 := E_e0.keep K
        replace lt_e0 := Nat.lt_of_lt_of_le lt_e0 K.1
        replace lt_se0 := Nat.lt_of_lt_of_le lt_se0 K.1
        replace A_al := A_al.keep K (ninS ne_al_e1 nin0)
        replace V_ld := V_ld.keep K (ninS ne_ld_e1 nin0)
        replace lt_ld := Nat.lt_of_lt_of_le lt_ld K.1
        replace E_e1 := E_e1.keep K
        replace lt_e1 := Nat.lt_of_lt_of_le lt_e1 K.1
        replace lt_se1 := Nat.lt_of_lt_of_le lt_se1 K.1
        obtain ⟨_, F_e1_text, F_e1_line⟩ := q
        obtain ⟨kt_ld, B_ld⟩ := V_ld.ty
        refine X.callV (pc' := 179) (X.sVirtual (wd84 hw) (wd85 hw) (wd87 hw) (wd86 hw) (by decide) rfl pd19 A_al.1 [(.ref e1)] rfl rfl at_176 (X.nf (wd87 hw) rfl)) (rmAddN l Z a0 hw al e1 _ X.old ld (1 : Int32) z_al z_ld ne_al_ld _ A_al [(.ref e0), (.null), (.null), (.null), (.null), (.null), (.null), (.null), (.null), (.null)] rfl V_ld 1 rfl (by decide) ⟨by decide, by decide⟩ (by decide) _ (wd114 hw) E_e1) (wd88 hw) (wd46 hw) (leB rfl) (leB rfl) (leB rfl) (leB rfl) (sfS (Safe.exa X.al A_al.1 (by decide) (by decide)) (sfS (V_ld.safe X.al) sf0)) (allS z_al (allS z_ld all0)) (allS (Or.inr s_al) (allS (Or.inr s_ld) all0)) rfl ?_
        intro T h L v X K q
        obtain ⟨rfl, A_n, V_n⟩ := q
        have Ob1 := (obj A_al.1 (wd45 hw))
        have Ob2 := B_ld
        replace lt_x7 := Nat.lt_of_lt_of_le lt_x7 K.1
        replace lt_x8 := Nat.lt_of_lt_of_le lt_x8 K.1
        replace S_x8 := S_x8.keep2 K ne_x8_al Ob1 ne_x8_ld Ob2
        replace lt_al := Nat.lt_of_lt_of_le lt_al K.1
        replace E_e0 := E_e0.keep K
        replace lt_e0 := Nat.lt_of_lt_of_le lt_e0 K.1
        replace lt_se0 := Nat.lt_of_lt_of_le lt_se0 K.1
        replace lt_ld := Nat.lt_of_lt_of_le lt_ld K.1
        replace E_e1 := E_e1.keep K
        replace lt_e1 := Nat.lt_of_lt_of_le lt_e1 K.1
        replace lt_se1 := Nat.lt_of_lt_of_le lt_se1 K.1
        rw [show ((1 : Int32) + 1 : Int32) = (2 : Int32) from by decide] at A_n
        replace A_al := A_n
        replace V_ld : OA Z h ld 10 [(.ref e0), (.ref e1), (.null), (.null), (.null), (.null), (.null), (.null), (.null), (.null)] := V_n
        refine X.pop (pc' := 180) at_179 rfl rfl ?_
        refine X.newO (pc' := 183) (wd115 hw) (wd116 hw) (wd117 hw) at_180 (by decide) (by decide) rfl ?_
        intro T h br g_br Ex lt_br E_br D_br X1
        have z_br : Z.heap.size ≤ br := by rw [g_br]; exact X.old.1
        have s_br : s.heap.size ≤ br := by rw [g_br]; exact X.kp.1
        have ne_x7_br : x7 ≠ br := Nat.ne_of_lt (by rw [g_br]; exact lt_x7)
        have ne_x8_br : x8 ≠ br := Nat.ne_of_lt (by rw [g_br]; exact lt_x8)
        have ne_al_br : al ≠ br := Nat.ne_of_lt (by rw [g_br]; exact lt_al)
        have ne_e0_br : e0 ≠ br := Nat.ne_of_lt (by rw [g_br]; exact lt_e0)
        have ne_se0_br : se0 ≠ br := Nat.ne_of_lt (by rw [g_br]; exact lt_se0)
        have ne_ld_br : ld ≠ br := Nat.ne_of_lt (by rw [g_br]; exact lt_ld)
        have ne_e1_br : e1 ≠ br := Nat.ne_of_lt (by rw [g_br]; exact lt_e1)
        have ne_se1_br : se1 ≠ br := Nat.ne_of_lt (by rw [g_br]; exact lt_se1)
        replace lt_x7 := Nat.lt_of_lt_of_le lt_x7 Ex.1
        replace lt_x8 := Nat.lt_of_lt_of_le lt_x8 Ex.1
        replace lt_al := Nat.lt_of_lt_of_le lt_al Ex.1
        replace E_e0 := E_e0.ext Ex
        replace lt_e0 := Nat.lt_of_lt_of_le lt_e0 Ex.1
        replace lt_se0 := Nat.lt_of_lt_of_le lt_se0 Ex.1
        replace lt_ld := Nat.lt_of_lt_of_le lt_ld Ex.1
        replace E_e1 := E_e1.ext Ex
        replace lt_e1 := Nat.lt_of_lt_of_le lt_e1 Ex.1
        replace lt_se1 := Nat.lt_of_lt_of_le lt_se1 Ex.1
        replace A_al := A_al.ext Ex
        replace V_ld := V_ld.ext Ex
        replace X := X1
        have F_br_label : Fld Z h br "com/example/treegraft/treegraft/brackets/Bracket" "label" "Ljava/lang/String;" .null := D_br (Or.inr (wd220 hw)) (ty := (.object "java/lang/String")) (by decide)
        have F_br_word : Fld Z h br "com/example/treegraft/treegraft/brackets/Bracket" "word" "Ljava/lang/String;" .null := D_br (Or.inr (wd222 hw)) (ty := (.object "java/lang/String")) (by decide)
        have F_br_children : Fld Z h br "com/example/treegraft/treegraft/brackets/Bracket" "children" "Ljava/util/List;" .null := D_br (Or.inr (wd224 hw)) (ty := (.object "java/util/List")) (by decide)
        have F_br_line : Fld Z h br "com/example/treegraft/treegraft/brackets/Bracket" "line" "I" (.int (0 : Int32)) := D_br (Or.inr (wd226 hw)) (ty := .int) (by decide)
        refine X.dup (pc' := 184) at_183 rfl rfl ?_
        refine X.aload (pc' := 186) at_184 rfl rfl rfl ?_
        refine X.iload (pc' := 188) at_186 rfl rfl ?_
        refine X.ifY (pc' := 196) at_188 (by decide) (by decide) (by decide) ?_
        refine X.aconstNull (pc' := 197) at_196 rfl ?_
        refine X.aload (pc' := 199) at_197 rfl rfl rfl ?_
        refine X.iloadN (pc' := 200) at_199 rfl rfl ?_
        refine X.callU (pc' := 203) (X.sSpecial rfl (wd118 hw) (wd119 hw) (wd120 hw) (by decide) rfl pd20 [(.ref x7), .null, (.ref al), (.int p4)] rfl rfl at_200) (rmBrN2 l Z a0 hw br (.ref x7) rfl al p4 _ X.old mo M_o ma M_a mu M_u mr M_r z_br E_br F_br_label F_br_word F_br_children F_br_line ld ne_al_br ne_ld_br _ A_al e0 _ (wd114 hw) E_e0 e1 _ (wd114 hw) E_e1 V_ld) (wd120 hw) (wd117 hw) (leB rfl) (leB rfl) (leB rfl) (leB rfl) (sfS (Safe.exa X.al E_br (by decide) (by decide)) sf0) (allS z_br all0) (allS (Or.inr s_br) all0) rfl ?_
        intro T h L X K q
        obtain ⟨u, nl, r, E_br, F_br_label, F_br_word, F_br_children, F_br_line, U, A_nl⟩ := q
        refine X.astore (pc' := 205) #[.val (.int p1), .val (.int p2), .val (.int p3), .val (.int p4), .val (.int (0 : Int32)), .val (.int (1 : Int32)), .val (.int (1 : Int32)), .val (.ref x7), .val (.ref x8), .val (.ref al), .val (.ref br), .unset] at_203 rfl rfl rfl ?_
        refine X.aload (pc' := 207) at_205 rfl rfl rfl ?_
        refine X.callP (pc' := 210) (X.sVirtual (wd227 hw) (wd228 hw) (wd230 hw) (wd229 hw) (by decide) rfl pd13 E_br [] rfl rfl at_207 (X.nf (wd230 hw) rfl)) (rmIsW0 l Z a0 hw br _ X.old F_br_word) (wd231 hw) (wd117 hw) (leB rfl) (leB rfl) (leB rfl) (leB rfl) rfl ?_
        intro T L v X q
        subst q
        refine X.istore (pc' := 212) #[.val (.int p1), .val (.int p2), .val (.int p3), .val (.int p4), .val (.int (0 : Int32)), .val (.int (1 : Int32)), .val (.int (1 : Int32)), .val (.ref x7), .val (.ref x8), .val (.ref al), .val (.ref br), .val (.int (0 : Int32))] at_210 rfl rfl ?_
        refine X.iload (pc' := 214) at_212 rfl rfl ?_
        refine X.iload (pc' := 216) at_214 rfl rfl ?_
        refine X.icN (pc' := 219) at_216 (by decide) rfl ?_
        refine X.iload (pc' := 221) at_219 rfl rfl ?_
        refine X.aload (pc' := 223) at_221 rfl rfl rfl ?_
        refine X.callP (pc' := 226) (X.sVirtual (wd232 hw) (wd233 hw) (wd235 hw) (wd234 hw) (by decide) rfl pd21 E_br [] rfl rfl at_223 (X.nf (wd230 hw) rfl)) (rmWord l Z a0 hw br _ X.old .null rfl F_br_word) (wd236 hw) (wd117 hw) (leB rfl) (leB rfl) (leB rfl) (leB rfl) rfl ?_
        intro T L v X q
        subst q
        refine X.nullY (pc' := 233) at_226 (by decide) (by decide) ?_
        refine X.iconst (pc' := 234) (0 : Int32) at_233 rfl rfl ?_
        refine X.icN (pc' := 237) at_234 (by decide) rfl ?_
        refine X.iload (pc' := 239) at_237 rfl rfl ?_
        refine X.aload (pc' := 241) at_239 rfl rfl rfl ?_
        refine X.callP (pc' := 244) (X.sVirtual (wd237 hw) (wd238 hw) (wd240 hw) (wd239 hw) (by decide) rfl pd14 E_br [] rfl rfl at_241 (X.nf (wd230 hw) rfl)) (rmCh l Z a0 hw br _ X.old (.ref u) rfl F_br_children) (wd241 hw) (wd117 hw) (leB rfl) (leB rfl) (leB rfl) (leB rfl) rfl ?_
        intro T L v X q
        subst q
        rcases U with hu | hu
        · have A_u : AL Z h u (.ref r) (2 : Int32) 0 := by rw [hu]; exact A_nl
          refine X.callP (pc' := 249) (X.sFace (y := (⟨"java/util/ArrayList", "isEmpty", "()Z"⟩ : MethodName)) (wd242 hw) (wd123 hw) (wd124 hw) rfl (wd125 hw) (wd126 hw) (wd127 hw) (wd128 hw) (wd129 hw) (by decide) rfl pd13 A_u.1 [] rfl rfl at_244) (rmIsEN l Z a0 hw u _ X.old (2 : Int32) (by decide) _ _ A_u) (wd130 hw) (wd46 hw) (leB rfl) (leB rfl) (leB rfl) (leB rfl) rfl ?_
          intro T L v X q
          subst q
          refine X.icN (pc' := 252) at_249 (by decide) rfl ?_
          refine X.aload (pc' := 254) at_252 rfl rfl rfl ?_
          refine X.callP (pc' := 257) (X.sVirtual (wd243 hw) (wd244 hw) (wd246 hw) (wd245 hw) (by decide) rfl pd22 E_br [] rfl rfl at_254 (X.nf (wd230 hw) rfl)) (rmLine l Z a0 hw br _ X.old p4 rfl F_br_line) (wd247 hw) (wd117 hw) (leB rfl) (leB rfl) (leB rfl) (leB rfl) rfl ?_
          intro T L v X q
          subst q
          refine X.iloadN (pc' := 258) at_257 rfl rfl ?_
          refine X.icN (pc' := 261) at_258 ((teq rfl).2) rfl ?_
          refine X.iconst (pc' := 262) (1 : Int32) at_261 rfl rfl ?_
          refine X.goto (pc' := 266) at_262 (by decide) (by decide) ?_
          exact X.retIC (by simp) rfl at_266 (by decide) (by decide) ⟨_, rfl, rfl⟩
        · refine X.callP (pc' := 249) (X.sFace (y := (⟨"java/util/Collections$UnmodifiableCollection", "isEmpty", "()Z"⟩ : MethodName)) (wd242 hw) (wd123 hw) (wd124 hw) rfl (wd209 hw) (wd210 hw) (wd211 hw) (wd212 hw) (wd213 hw) (by decide) rfl pd13 hu.1 [] rfl rfl at_244) (rmUIsE l Z a0 hw u _ X.old nl _ hu (2 : Int32) (by decide) _ _ A_nl) (wd214 hw) (wd202 hw) (leB rfl) (leB rfl) (leB rfl) (leB rfl) rfl ?_
          intro T L v X q
          subst q
          refine X.icN (pc' := 252) at_249 (by decide) rfl ?_
          refine X.aload (pc' := 254) at_252 rfl rfl rfl ?_
          refine X.callP (pc' := 257) (X.sVirtual (wd243 hw) (wd244 hw) (wd246 hw) (wd245 hw) (by decide) rfl pd22 E_br [] rfl rfl at_254 (X.nf (wd230 hw) rfl)) (rmLine l Z a0 hw br _ X.old p4 rfl F_br_line) (wd247 hw) (wd117 hw) (leB rfl) (leB rfl) (leB rfl) (leB rfl) rfl ?_
          intro T L v X q
          subst q
          refine X.iloadN (pc' := 258) at_257 rfl rfl ?_
          refine X.icN (pc' := 261) at_258 ((teq rfl).2) rfl ?_
          refine X.iconst (pc' := 262) (1 : Int32) at_261 rfl rfl ?_
          refine X.goto (pc' := 266) at_262 (by decide) (by decide) ?_
          exact X.retIC (by simp) rfl at_266 (by decide) (by decide) ⟨_, rfl, rfl⟩
  · refine X.ifN (pc' := 6) at_3 ((if0 _ _).trans (feq hq0).1) rfl ?_
    refine X.iconst (pc' := 7) (1 : Int32) at_6 rfl rfl ?_
    refine X.goto (pc' := 11) at_7 (by decide) (by decide) ?_
    refine X.istore (pc' := 13) #[.val (.int p1), .val (.int p2), .val (.int p3), .val (.int p4), .val (.int (1 : Int32)), .unset, .unset, .unset, .unset, .unset, .unset, .unset] at_11 rfl rfl ?_
    refine X.iloadN (pc' := 14) at_13 rfl rfl ?_
    refine X.iconst (pc' := 15) (2 : Int32) at_14 rfl rfl ?_
    refine X.iand (pc' := 16) at_15 rfl ?_
    by_cases hq1 : (p1 &&& (2 : Int32)) = 0
    · refine X.ifY (pc' := 23) at_16 ((if0 _ _).trans (teq hq1).1) (by decide) (by decide) ?_
      refine X.iconst (pc' := 24) (0 : Int32) at_23 rfl rfl ?_
      refine X.istore (pc' := 26) #[.val (.int p1), .val (.int p2), .val (.int p3), .val (.int p4), .val (.int (1 : Int32)), .val (.int (0 : Int32)), .unset, .unset, .unset, .unset, .unset, .unset] at_24 rfl rfl ?_
      refine X.iloadN (pc' := 27) at_26 rfl rfl ?_
      refine X.iconst (pc' := 28) (4 : Int32) at_27 rfl rfl ?_
      refine X.iand (pc' := 29) at_28 rfl ?_
      by_cases hq2 : (p1 &&& (4 : Int32)) = 0
      · refine X.ifY (pc' := 36) at_29 ((if0 _ _).trans (teq hq2).1) (by decide) (by decide) ?_
        refine X.iconst (pc' := 37) (0 : Int32) at_36 rfl rfl ?_
        refine X.istore (pc' := 39) #[.val (.int p1), .val (.int p2), .val (.int p3), .val (.int p4), .val (.int (1 : Int32)), .val (.int (0 : Int32)), .val (.int (0 : Int32)), .unset, .unset, .unset, .unset, .unset] at_37 rfl rfl ?_
        refine X.iloadN (pc' := 40) at_39 rfl rfl ?_
        refine X.sipush (pc' := 43) (255 : Int32) at_40 rfl rfl ?_
        refine X.iand (pc' := 44) at_43 rfl ?_
        refine X.i2c (pc' := 45) at_44 rfl ?_
        generalize hc_c7 : ((p2 &&& (255 : Int32)).toUInt32.toUInt16.toUInt32.toInt32) = c7
        have r_c7 := chr255 hc_c7
        refine X.callV (pc' := 48) (X.sStatic (wd0 hw) (wd1 hw) (wd2 hw) (wd3 hw) (by decide) rfl pd16 [(.int c7)] rfl rfl at_45) (rmVOf l Z a0 hw c7 _ X.old z O2 hz r_c7.1) (wd3 hw) (wd2 hw) (leB rfl) (leB rfl) (leB rfl) (leB rfl) sf0 all0 all0 rfl ?_
        intro T h L v X K q
        obtain ⟨x7, rfl, le_x7, S_x7⟩ := q
        have lt_x7 := S_x7.lt
        refine X.astore (pc' := 50) #[.val (.int p1), .val (.int p2), .val (.int p3), .val (.int p4), .val (.int (1 : Int32)), .val (.int (0 : Int32)), .val (.int (0 : Int32)), .val (.ref x7), .unset, .unset, .unset, .unset] at_48 rfl rfl rfl ?_
        refine X.iload (pc' := 52) at_50 rfl rfl ?_
        refine X.ifY (pc' := 70) at_52 (by decide) (by decide) (by decide) ?_
        refine X.iconst (pc' := 71) (2 : Int32) at_70 rfl rfl ?_
        refine X.newP (pc' := 73) (aty := .char) (wd26 hw) at_71 (by decide) 2 (by decide) (by decide) (by decide) (by decide) rfl ?_
        intro T h b8 ka_b8 g_b8 Ex lt_b8 V_b8 X1
        have z_b8 : Z.heap.size ≤ b8 := by rw [g_b8]; exact X.old.1
        have s_b8 : s.heap.size ≤ b8 := by rw [g_b8]; exact X.kp.1
        have ne_x7_b8 : x7 ≠ b8 := Nat.ne_of_lt (by rw [g_b8]; exact lt_x7)
        replace S_x7 := S_x7.ext Ex
        replace lt_x7 := Nat.lt_of_lt_of_le lt_x7 Ex.1
        replace X := X1
        replace V_b8 : Arv Z h b8 ka_b8 .char (2 : Int32) [(.int (0 : Int32)), (.int (0 : Int32))] (.int (0 : Int32)) := (Arv.pad V_b8 (pad_rep [] (.int (0 : Int32)) 2))
        refine X.astore (pc' := 75) #[.val (.int p1), .val (.int p2), .val (.int p3), .val (.int p4), .val (.int (1 : Int32)), .val (.int (0 : Int32)), .val (.int (0 : Int32)), .val (.ref x7), .unset, .val (.ref b8), .unset, .unset] at_73 rfl rfl rfl ?_
        refine X.aload (pc' := 77) at_75 rfl rfl rfl ?_
        refine X.iconst (pc' := 78) (0 : Int32) at_77 rfl rfl ?_
        refine X.iloadN (pc' := 79) at_78 rfl rfl ?_
        refine X.bipush (pc' := 81) (8 : Int32) at_79 rfl rfl ?_
        refine X.iushr (pc' := 82) at_81 rfl ?_
        refine X.sipush (pc' := 85) (255 : Int32) at_82 rfl rfl ?_
        refine X.iand (pc' := 86) at_85 rfl ?_
        refine X.i2c (pc' := 87) at_86 rfl ?_
        generalize hc_k0 : ((((p2.toUInt32 >>> ((8 : Int32) &&& 31).toUInt32).toInt32) &&& (255 : Int32)).toUInt32.toUInt16.toUInt32.toInt32) = k0
        have r_k0 := chr255 hc_k0
        refine X.castore (pc' := 88) V_b8 ⟨by decide, by decide⟩ 0 rfl (Nat.le_of_ble_eq_true rfl) z_b8 (Or.inr s_b8) at_87 rfl ?_
        intro T h L X W V1
        rw [r_k0.2] at V1
        have V0 := V_b8
        replace S_x7 := S_x7.wrA W V0 (by decide) (wd10 hw)
        replace lt_x7 := Nat.lt_of_lt_of_le lt_x7 (Keep.of_wr W).1
        replace lt_b8 := Nat.lt_of_lt_of_le lt_b8 (Keep.of_wr W).1
        replace V_b8 : Arv Z h b8 ka_b8 .char (2 : Int32) [(.int k0), (.int (0 : Int32))] (.int (0 : Int32)) := V1
        refine X.aload (pc' := 90) at_88 rfl rfl rfl ?_
        refine X.iconst (pc' := 91) (1 : Int32) at_90 rfl rfl ?_
        refine X.iloadN (pc' := 92) at_91 rfl rfl ?_
        refine X.sipush (pc' := 95) (255 : Int32) at_92 rfl rfl ?_
        refine X.iand (pc' := 96) at_95 rfl ?_
        refine X.i2c (pc' := 97) at_96 rfl ?_
        generalize hc_k1 : ((p3 &&& (255 : Int32)).toUInt32.toUInt16.toUInt32.toInt32) = k1
        have r_k1 := chr255 hc_k1
        refine X.castore (pc' := 98) V_b8 ⟨by decide, by decide⟩ 1 rfl (Nat.le_of_ble_eq_true rfl) z_b8 (Or.inr s_b8) at_97 rfl ?_
        intro T h L X W V1
        rw [r_k1.2] at V1
        have V0 := V_b8
        replace S_x7 := S_x7.wrA W V0 (by decide) (wd10 hw)
        replace lt_x7 := Nat.lt_of_lt_of_le lt_x7 (Keep.of_wr W).1
        replace lt_b8 := Nat.lt_of_lt_of_le lt_b8 (Keep.of_wr W).1
        replace V_b8 : Arv Z h b8 ka_b8 .char (2 : Int32) [(.int k0), (.int k1)] (.int (0 : Int32)) := V1
        refine X.newO (pc' := 101) (wd27 hw) (wd10 hw) (wd2 hw) at_98 (by decide) (by decide) rfl ?_
        intro T h x8 g_x8 Ex lt_x8 E_x8 D_x8 X1
        have z_x8 : Z.heap.size ≤ x8 := by rw [g_x8]; exact X.old.1
        have s_x8 : s.heap.size ≤ x8 := by rw [g_x8]; exact X.kp.1
        have ne_x7_x8 : x7 ≠ x8 := Nat.ne_of_lt (by rw [g_x8]; exact lt_x7)
        have ne_b8_x8 : b8 ≠ x8 := Nat.ne_of_lt (by rw [g_x8]; exact lt_b8)
        replace S_x7 := S_x7.ext Ex
        replace lt_x7 := Nat.lt_of_lt_of_le lt_x7 Ex.1
        replace V_b8 := V_b8.ext Ex
        replace lt_b8 := Nat.lt_of_lt_of_le lt_b8 Ex.1
        replace X := X1
        have F_x8_value : Fld Z h x8 "java/lang/String" "value" "[B" .null := D_x8 (Or.inr (wd23 hw)) (ty := (.array .byte)) (by decide)
        have F_x8_coder : Fld Z h x8 "java/lang/String" "coder" "B" (.int (0 : Int32)) := D_x8 (Or.inr (wd25 hw)) (ty := .byte) (by decide)
        refine X.dup (pc' := 102) at_101 rfl rfl ?_
        refine X.aload (pc' := 104) at_102 rfl rfl rfl ?_
        refine X.newStr (pc' := 107) (cs := [k0, k1]) (n := 2) (X.sSpecial rfl (wd28 hw) (wd29 hw) (wd30 hw) (by decide) rfl pd17 [(.ref b8)] rfl rfl at_104) hws (wd10 hw) E_x8 F_x8_value F_x8_coder V_b8 O2 hz rfl rfl (by decide) (by decide) (allC r_k0.1 (all1 r_k1.1)) (leB rfl) (leB rfl) (leB rfl) (leB rfl) z_x8 (Or.inr s_x8) rfl ?_
        intro T h L X K S_x8
        have Ob1 := (obj E_x8 (wd10 hw))
        replace S_x7 := S_x7.keep1 K ne_x7_x8 Ob1
        replace lt_x7 := Nat.lt_of_lt_of_le lt_x7 K.1
        replace V_b8 := V_b8.keep K (ninS ne_b8_x8 nin0)
        replace lt_b8 := Nat.lt_of_lt_of_le lt_b8 K.1
        replace E_x8 := E_x8.keep K
        replace lt_x8 := Nat.lt_of_lt_of_le lt_x8 K.1
        refine X.astore (pc' := 109) #[.val (.int p1), .val (.int p2), .val (.int p3), .val (.int p4), .val (.int (1 : Int32)), .val (.int (0 : Int32)), .val (.int (0 : Int32)), .val (.ref x7), .val (.ref x8), .val (.ref b8), .unset, .unset] at_107 rfl rfl rfl ?_
        refine X.newO (pc' := 112) (wd44 hw) (wd45 hw) (wd46 hw) at_109 (by decide) (by decide) rfl ?_
        intro T h al g_al Ex lt_al E_al D_al X1
        have z_al : Z.heap.size ≤ al := by rw [g_al]; exact X.old.1
        have s_al : s.heap.size ≤ al := by rw [g_al]; exact X.kp.1
        have ne_x7_al : x7 ≠ al := Nat.ne_of_lt (by rw [g_al]; exact lt_x7)
        have ne_x8_al : x8 ≠ al := Nat.ne_of_lt (by rw [g_al]; exact lt_x8)
        replace lt_x7 := Nat.lt_of_lt_of_le lt_x7 Ex.1
        replace lt_x8 := Nat.lt_of_lt_of_le lt_x8 Ex.1
        replace S_x8 := S_x8.ext Ex
        replace X := X1
        have F_al_elementData : Fld Z h al "java/util/ArrayList" "elementData" "[Ljava/lang/Object;" .null := D_al (Or.inl (wd67 hw)) (ty := (.array (.object "java/lang/Object"))) (by decide)
        have F_al_size : Fld Z h al "java/util/ArrayList" "size" "I" (.int (0 : Int32)) := D_al (Or.inl (wd92 hw)) (ty := .int) (by decide)
        have F_al_modCount : Fld Z h al "java/util/AbstractList" "modCount" "I" (.int (0 : Int32)) := D_al (Or.inl (wd64 hw)) (ty := .int) (by decide)
        refine X.dup (pc' := 113) at_112 rfl rfl ?_
        refine X.callU (pc' := 116) (X.sSpecial rfl (wd47 hw) (wd48 hw) (wd49 hw) (by decide) rfl pd4 [] rfl rfl at_113) (rmALI l Z a0 hw al _ X.old d0 SD VD z_al ⟨E_al, F_al_elementData, F_al_size, F_al_modCount⟩) (wd49 hw) (wd46 hw) (leB rfl) (leB rfl) (leB rfl) (leB rfl) (sfS (Safe.exa X.al E_al (by decide) (by decide)) sf0) (allS z_al all0) (allS (Or.inr s_al) all0) rfl ?_
        intro T h L X K A_al
        have Ob1 := (obj E_al (wd45 hw))
        replace lt_x7 := Nat.lt_of_lt_of_le lt_x7 K.1
        replace lt_x8 := Nat.lt_of_lt_of_le lt_x8 K.1
        replace S_x8 := S_x8.keep1 K ne_x8_al Ob1
        replace E_al := E_al.keep K
        replace lt_al := Nat.lt_of_lt_of_le lt_al K.1
        refine X.astore (pc' := 118) #[.val (.int p1), .val (.int p2), .val (.int p3), .val (.int p4), .val (.int (1 : Int32)), .val (.int (0 : Int32)), .val (.int (0 : Int32)), .val (.ref x7), .val (.ref x8), .val (.ref al), .unset, .unset] at_116 rfl rfl rfl ?_
        refine X.iload (pc' := 120) at_118 rfl rfl ?_
        refine X.ifY (pc' := 180) at_120 (by decide) (by decide) (by decide) ?_
        refine X.newO (pc' := 183) (wd115 hw) (wd116 hw) (wd117 hw) at_180 (by decide) (by decide) rfl ?_
        intro T h br g_br Ex lt_br E_br D_br X1
        have z_br : Z.heap.size ≤ br := by rw [g_br]; exact X.old.1
        have s_br : s.heap.size ≤ br := by rw [g_br]; exact X.kp.1
        have ne_x7_br : x7 ≠ br := Nat.ne_of_lt (by rw [g_br]; exact lt_x7)
        have ne_x8_br : x8 ≠ br := Nat.ne_of_lt (by rw [g_br]; exact lt_x8)
        have ne_al_br : al ≠ br := Nat.ne_of_lt (by rw [g_br]; exact lt_al)
        replace lt_x7 := Nat.lt_of_lt_of_le lt_x7 Ex.1
        replace lt_x8 := Nat.lt_of_lt_of_le lt_x8 Ex.1
        replace S_x8 := S_x8.ext Ex
        replace lt_al := Nat.lt_of_lt_of_le lt_al Ex.1
        replace A_al := A_al.ext Ex
        replace X := X1
        have F_br_label : Fld Z h br "com/example/treegraft/treegraft/brackets/Bracket" "label" "Ljava/lang/String;" .null := D_br (Or.inr (wd220 hw)) (ty := (.object "java/lang/String")) (by decide)
        have F_br_word : Fld Z h br "com/example/treegraft/treegraft/brackets/Bracket" "word" "Ljava/lang/String;" .null := D_br (Or.inr (wd222 hw)) (ty := (.object "java/lang/String")) (by decide)
        have F_br_children : Fld Z h br "com/example/treegraft/treegraft/brackets/Bracket" "children" "Ljava/util/List;" .null := D_br (Or.inr (wd224 hw)) (ty := (.object "java/util/List")) (by decide)
        have F_br_line : Fld Z h br "com/example/treegraft/treegraft/brackets/Bracket" "line" "I" (.int (0 : Int32)) := D_br (Or.inr (wd226 hw)) (ty := .int) (by decide)
        refine X.dup (pc' := 184) at_183 rfl rfl ?_
        refine X.aload (pc' := 186) at_184 rfl rfl rfl ?_
        refine X.iload (pc' := 188) at_186 rfl rfl ?_
        refine X.ifN (pc' := 191) at_188 (by decide) rfl ?_
        refine X.aload (pc' := 193) at_191 rfl rfl rfl ?_
        refine X.goto (pc' := 197) at_193 (by decide) (by decide) ?_
        refine X.aload (pc' := 199) at_197 rfl rfl rfl ?_
        refine X.iloadN (pc' := 200) at_199 rfl rfl ?_
        refine X.callU (pc' := 203) (X.sSpecial rfl (wd118 hw) (wd119 hw) (wd120 hw) (by decide) rfl pd20 [(.ref x7), (.ref x8), (.ref al), (.int p4)] rfl rfl at_200) (rmBrW l Z a0 hw br (.ref x7) rfl x8 al p4 _ X.old eo SE E_eo el FE VE z_br E_br F_br_label F_br_word F_br_children F_br_line _ _ A_al) (wd120 hw) (wd117 hw) (leB rfl) (leB rfl) (leB rfl) (leB rfl) (sfS (Safe.exa X.al E_br (by decide) (by decide)) sf0) (allS z_br all0) (allS (Or.inr s_br) all0) rfl ?_
        intro T h L X K q
        obtain ⟨E_br, F_br_label, F_br_word, F_br_children, F_br_line⟩ := q
        refine X.astore (pc' := 205) #[.val (.int p1), .val (.int p2), .val (.int p3), .val (.int p4), .val (.int (1 : Int32)), .val (.int (0 : Int32)), .val (.int (0 : Int32)), .val (.ref x7), .val (.ref x8), .val (.ref al), .val (.ref br), .unset] at_203 rfl rfl rfl ?_
        refine X.aload (pc' := 207) at_205 rfl rfl rfl ?_
        refine X.callP (pc' := 210) (X.sVirtual (wd227 hw) (wd228 hw) (wd230 hw) (wd229 hw) (by decide) rfl pd13 E_br [] rfl rfl at_207 (X.nf (wd230 hw) rfl)) (rmIsW1 l Z a0 hw br _ X.old x8 F_br_word) (wd231 hw) (wd117 hw) (leB rfl) (leB rfl) (leB rfl) (leB rfl) rfl ?_
        intro T L v X q
        subst q
        refine X.istore (pc' := 212) #[.val (.int p1), .val (.int p2), .val (.int p3), .val (.int p4), .val (.int (1 : Int32)), .val (.int (0 : Int32)), .val (.int (0 : Int32)), .val (.ref x7), .val (.ref x8), .val (.ref al), .val (.ref br), .val (.int (1 : Int32))] at_210 rfl rfl ?_
        refine X.iload (pc' := 214) at_212 rfl rfl ?_
        refine X.iload (pc' := 216) at_214 rfl rfl ?_
        refine X.icN (pc' := 219) at_216 (by decide) rfl ?_
        refine X.iload (pc' := 221) at_219 rfl rfl ?_
        refine X.aload (pc' := 223) at_221 rfl rfl rfl ?_
        refine X.callP (pc' := 226) (X.sVirtual (wd232 hw) (wd233 hw) (wd235 hw) (wd234 hw) (by decide) rfl pd21 E_br [] rfl rfl at_223 (X.nf (wd230 hw) rfl)) (rmWord l Z a0 hw br _ X.old (.ref x8) rfl F_br_word) (wd236 hw) (wd117 hw) (leB rfl) (leB rfl) (leB rfl) (leB rfl) rfl ?_
        intro T L v X q
        subst q
        refine X.nullN (pc' := 229) at_226 rfl ?_
        refine X.iconst (pc' := 230) (1 : Int32) at_229 rfl rfl ?_
        refine X.goto (pc' := 234) at_230 (by decide) (by decide) ?_
        refine X.icN (pc' := 237) at_234 (by decide) rfl ?_
        refine X.iload (pc' := 239) at_237 rfl rfl ?_
        refine X.aload (pc' := 241) at_239 rfl rfl rfl ?_
        refine X.callP (pc' := 244) (X.sVirtual (wd237 hw) (wd238 hw) (wd240 hw) (wd239 hw) (by decide) rfl pd14 E_br [] rfl rfl at_241 (X.nf (wd230 hw) rfl)) (rmCh l Z a0 hw br _ X.old (.ref eo) rfl F_br_children) (wd241 hw) (wd117 hw) (leB rfl) (leB rfl) (leB rfl) (leB rfl) rfl ?_
        intro T L v X q
        subst q
        refine X.callP (pc' := 249) (X.sFace (y := (⟨"java/util/ImmutableCollections$ListN", "isEmpty", "()Z"⟩ : MethodName)) (wd242 hw) (wd123 hw) (wd124 hw) rfl (wd257 hw) (wd258 hw) (wd259 hw) (wd260 hw) (wd261 hw) (by decide) rfl pd13 (E_eo.ext X.old) [] rfl rfl at_244) (rmLNE l Z a0 hw eo _ X.old el (FE.ext X.old) (VE.ext X.old)) (wd263 hw) (wd262 hw) (leB rfl) (leB rfl) (leB rfl) (leB rfl) rfl ?_
        intro T L v X q
        subst q
        refine X.icN (pc' := 252) at_249 (by decide) rfl ?_
        refine X.aload (pc' := 254) at_252 rfl rfl rfl ?_
        refine X.callP (pc' := 257) (X.sVirtual (wd243 hw) (wd244 hw) (wd246 hw) (wd245 hw) (by decide) rfl pd22 E_br [] rfl rfl at_254 (X.nf (wd230 hw) rfl)) (rmLine l Z a0 hw br _ X.old p4 rfl F_br_line) (wd247 hw) (wd117 hw) (leB rfl) (leB rfl) (leB rfl) (leB rfl) rfl ?_
        intro T L v X q
        subst q
        refine X.iloadN (pc' := 258) at_257 rfl rfl ?_
        refine X.icN (pc' := 261) at_258 ((teq rfl).2) rfl ?_
        refine X.iconst (pc' := 262) (1 : Int32) at_261 rfl rfl ?_
        refine X.goto (pc' := 266) at_262 (by decide) (by decide) ?_
        exact X.retIC (by simp) rfl at_266 (by decide) (by decide) ⟨_, rfl, rfl⟩
      · refine X.ifN (pc' := 32) at_29 ((if0 _ _).trans (feq hq2).1) rfl ?_
        refine X.iconst (pc' := 33) (1 : Int32) at_32 rfl rfl ?_
        refine X.goto (pc' := 37) at_33 (by decide) (by decide) ?_
        refine X.istore (pc' := 39) #[.val (.int p1), .val (.int p2), .val (.int p3), .val (.int p4), .val (.int (1 : Int32)), .val (.int (0 : Int32)), .val (.int (1 : Int32)), .unset, .unset, .unset, .unset, .unset] at_37 rfl rfl ?_
        refine X.iloadN (pc' := 40) at_39 rfl rfl ?_
        refine X.sipush (pc' := 43) (255 : Int32) at_40 rfl rfl ?_
        refine X.iand (pc' := 44) at_43 rfl ?_
        refine X.i2c (pc' := 45) at_44 rfl ?_
        generalize hc_c7 : ((p2 &&& (255 : Int32)).toUInt32.toUInt16.toUInt32.toInt32) = c7
        have r_c7 := chr255 hc_c7
        refine X.callV (pc' := 48) (X.sStatic (wd0 hw) (wd1 hw) (wd2 hw) (wd3 hw) (by decide) rfl pd16 [(.int c7)] rfl rfl at_45) (rmVOf l Z a0 hw c7 _ X.old z O2 hz r_c7.1) (wd3 hw) (wd2 hw) (leB rfl) (leB rfl) (leB rfl) (leB rfl) sf0 all0 all0 rfl ?_
        intro T h L v X K q
        obtain ⟨x7, rfl, le_x7, S_x7⟩ := q
        have lt_x7 := S_x7.lt
        refine X.astore (pc' := 50) #[.val (.int p1), .val (.int p2), .val (.int p3), .val (.int p4), .val (.int (1 : Int32)), .val (.int (0 : Int32)), .val (.int (1 : Int32)), .val (.ref x7), .unset, .unset, .unset, .unset] at_48 rfl rfl rfl ?_
        refine X.iload (pc' := 52) at_50 rfl rfl ?_
        refine X.ifY (pc' := 70) at_52 (by decide) (by decide) (by decide) ?_
        refine X.iconst (pc' := 71) (2 : Int32) at_70 rfl rfl ?_
        refine X.newP (pc' := 73) (aty := .char) (wd26 hw) at_71 (by decide) 2 (by decide) (by decide) (by decide) (by decide) rfl ?_
        intro T h b8 ka_b8 g_b8 Ex lt_b8 V_b8 X1
        have z_b8 : Z.heap.size ≤ b8 := by rw [g_b8]; exact X.old.1
        have s_b8 : s.heap.size ≤ b8 := by rw [g_b8]; exact X.kp.1
        have ne_x7_b8 : x7 ≠ b8 := Nat.ne_of_lt (by rw [g_b8]; exact lt_x7)
        replace S_x7 := S_x7.ext Ex
        replace lt_x7 := Nat.lt_of_lt_of_le lt_x7 Ex.1
        replace X := X1
        replace V_b8 : Arv Z h b8 ka_b8 .char (2 : Int32) [(.int (0 : Int32)), (.int (0 : Int32))] (.int (0 : Int32)) := (Arv.pad V_b8 (pad_rep [] (.int (0 : Int32)) 2))
        refine X.astore (pc' := 75) #[.val (.int p1), .val (.int p2), .val (.int p3), .val (.int p4), .val (.int (1 : Int32)), .val (.int (0 : Int32)), .val (.int (1 : Int32)), .val (.ref x7), .unset, .val (.ref b8), .unset, .unset] at_73 rfl rfl rfl ?_
        refine X.aload (pc' := 77) at_75 rfl rfl rfl ?_
        refine X.iconst (pc' := 78) (0 : Int32) at_77 rfl rfl ?_
        refine X.iloadN (pc' := 79) at_78 rfl rfl ?_
        refine X.bipush (pc' := 81) (8 : Int32) at_79 rfl rfl ?_
        refine X.iushr (pc' := 82) at_81 rfl ?_
        refine X.sipush (pc' := 85) (255 : Int32) at_82 rfl rfl ?_
        refine X.iand (pc' := 86) at_85 rfl ?_
        refine X.i2c (pc' := 87) at_86 rfl ?_
        generalize hc_k0 : ((((p2.toUInt32 >>> ((8 : Int32) &&& 31).toUInt32).toInt32) &&& (255 : Int32)).toUInt32.toUInt16.toUInt32.toInt32) = k0
        have r_k0 := chr255 hc_k0
        refine X.castore (pc' := 88) V_b8 ⟨by decide, by decide⟩ 0 rfl (Nat.le_of_ble_eq_true rfl) z_b8 (Or.inr s_b8) at_87 rfl ?_
        intro T h L X W V1
        rw [r_k0.2] at V1
        have V0 := V_b8
        replace S_x7 := S_x7.wrA W V0 (by decide) (wd10 hw)
        replace lt_x7 := Nat.lt_of_lt_of_le lt_x7 (Keep.of_wr W).1
        replace lt_b8 := Nat.lt_of_lt_of_le lt_b8 (Keep.of_wr W).1
        replace V_b8 : Arv Z h b8 ka_b8 .char (2 : Int32) [(.int k0), (.int (0 : Int32))] (.int (0 : Int32)) := V1
        refine X.aload (pc' := 90) at_88 rfl rfl rfl ?_
        refine X.iconst (pc' := 91) (1 : Int32) at_90 rfl rfl ?_
        refine X.iloadN (pc' := 92) at_91 rfl rfl ?_
        refine X.sipush (pc' := 95) (255 : Int32) at_92 rfl rfl ?_
        refine X.iand (pc' := 96) at_95 rfl ?_
        refine X.i2c (pc' := 97) at_96 rfl ?_
        generalize hc_k1 : ((p3 &&& (255 : Int32)).toUInt32.toUInt16.toUInt32.toInt32) = k1
        have r_k1 := chr255 hc_k1
        refine X.castore (pc' := 98) V_b8 ⟨by decide, by decide⟩ 1 rfl (Nat.le_of_ble_eq_true rfl) z_b8 (Or.inr s_b8) at_97 rfl ?_
        intro T h L X W V1
        rw [r_k1.2] at V1
        have V0 := V_b8
        replace S_x7 := S_x7.wrA W V0 (by decide) (wd10 hw)
        replace lt_x7 := Nat.lt_of_lt_of_le lt_x7 (Keep.of_wr W).1
        replace lt_b8 := Nat.lt_of_lt_of_le lt_b8 (Keep.of_wr W).1
        replace V_b8 : Arv Z h b8 ka_b8 .char (2 : Int32) [(.int k0), (.int k1)] (.int (0 : Int32)) := V1
        refine X.newO (pc' := 101) (wd27 hw) (wd10 hw) (wd2 hw) at_98 (by decide) (by decide) rfl ?_
        intro T h x8 g_x8 Ex lt_x8 E_x8 D_x8 X1
        have z_x8 : Z.heap.size ≤ x8 := by rw [g_x8]; exact X.old.1
        have s_x8 : s.heap.size ≤ x8 := by rw [g_x8]; exact X.kp.1
        have ne_x7_x8 : x7 ≠ x8 := Nat.ne_of_lt (by rw [g_x8]; exact lt_x7)
        have ne_b8_x8 : b8 ≠ x8 := Nat.ne_of_lt (by rw [g_x8]; exact lt_b8)
        replace S_x7 := S_x7.ext Ex
        replace lt_x7 := Nat.lt_of_lt_of_le lt_x7 Ex.1
        replace V_b8 := V_b8.ext Ex
        replace lt_b8 := Nat.lt_of_lt_of_le lt_b8 Ex.1
        replace X := X1
        have F_x8_value : Fld Z h x8 "java/lang/String" "value" "[B" .null := D_x8 (Or.inr (wd23 hw)) (ty := (.array .byte)) (by decide)
        have F_x8_coder : Fld Z h x8 "java/lang/String" "coder" "B" (.int (0 : Int32)) := D_x8 (Or.inr (wd25 hw)) (ty := .byte) (by decide)
        refine X.dup (pc' := 102) at_101 rfl rfl ?_
        refine X.aload (pc' := 104) at_102 rfl rfl rfl ?_
        refine X.newStr (pc' := 107) (cs := [k0, k1]) (n := 2) (X.sSpecial rfl (wd28 hw) (wd29 hw) (wd30 hw) (by decide) rfl pd17 [(.ref b8)] rfl rfl at_104) hws (wd10 hw) E_x8 F_x8_value F_x8_coder V_b8 O2 hz rfl rfl (by decide) (by decide) (allC r_k0.1 (all1 r_k1.1)) (leB rfl) (leB rfl) (leB rfl) (leB rfl) z_x8 (Or.inr s_x8) rfl ?_
        intro T h L X K S_x8
        have Ob1 := (obj E_x8 (wd10 hw))
        replace S_x7 := S_x7.keep1 K ne_x7_x8 Ob1
        replace lt_x7 := Nat.lt_of_lt_of_le lt_x7 K.1
        replace V_b8 := V_b8.keep K (ninS ne_b8_x8 nin0)
        replace lt_b8 := Nat.lt_of_lt_of_le lt_b8 K.1
        replace E_x8 := E_x8.keep K
        replace lt_x8 := Nat.lt_of_lt_of_le lt_x8 K.1
        refine X.astore (pc' := 109) #[.val (.int p1), .val (.int p2), .val (.int p3), .val (.int p4), .val (.int (1 : Int32)), .val (.int (0 : Int32)), .val (.int (1 : Int32)), .val (.ref x7), .val (.ref x8), .val (.ref b8), .unset, .unset] at_107 rfl rfl rfl ?_
        refine X.newO (pc' := 112) (wd44 hw) (wd45 hw) (wd46 hw) at_109 (by decide) (by decide) rfl ?_
        intro T h al g_al Ex lt_al E_al D_al X1
        have z_al : Z.heap.size ≤ al := by rw [g_al]; exact X.old.1
        have s_al : s.heap.size ≤ al := by rw [g_al]; exact X.kp.1
        have ne_x7_al : x7 ≠ al := Nat.ne_of_lt (by rw [g_al]; exact lt_x7)
        have ne_x8_al : x8 ≠ al := Nat.ne_of_lt (by rw [g_al]; exact lt_x8)
        replace lt_x7 := Nat.lt_of_lt_of_le lt_x7 Ex.1
        replace lt_x8 := Nat.lt_of_lt_of_le lt_x8 Ex.1
        replace S_x8 := S_x8.ext Ex
        replace X := X1
        have F_al_elementData : Fld Z h al "java/util/ArrayList" "elementData" "[Ljava/lang/Object;" .null := D_al (Or.inl (wd67 hw)) (ty := (.array (.object "java/lang/Object"))) (by decide)
        have F_al_size : Fld Z h al "java/util/ArrayList" "size" "I" (.int (0 : Int32)) := D_al (Or.inl (wd92 hw)) (ty := .int) (by decide)
        have F_al_modCount : Fld Z h al "java/util/AbstractList" "modCount" "I" (.int (0 : Int32)) := D_al (Or.inl (wd64 hw)) (ty := .int) (by decide)
        refine X.dup (pc' := 113) at_112 rfl rfl ?_
        refine X.callU (pc' := 116) (X.sSpecial rfl (wd47 hw) (wd48 hw) (wd49 hw) (by decide) rfl pd4 [] rfl rfl at_113) (rmALI l Z a0 hw al _ X.old d0 SD VD z_al ⟨E_al, F_al_elementData, F_al_size, F_al_modCount⟩) (wd49 hw) (wd46 hw) (leB rfl) (leB rfl) (leB rfl) (leB rfl) (sfS (Safe.exa X.al E_al (by decide) (by decide)) sf0) (allS z_al all0) (allS (Or.inr s_al) all0) rfl ?_
        intro T h L X K A_al
        have Ob1 := (obj E_al (wd45 hw))
        replace lt_x7 := Nat.lt_of_lt_of_le lt_x7 K.1
        replace lt_x8 := Nat.lt_of_lt_of_le lt_x8 K.1
        replace S_x8 := S_x8.keep1 K ne_x8_al Ob1
        replace E_al := E_al.keep K
        replace lt_al := Nat.lt_of_lt_of_le lt_al K.1
        refine X.astore (pc' := 118) #[.val (.int p1), .val (.int p2), .val (.int p3), .val (.int p4), .val (.int (1 : Int32)), .val (.int (0 : Int32)), .val (.int (1 : Int32)), .val (.ref x7), .val (.ref x8), .val (.ref al), .unset, .unset] at_116 rfl rfl rfl ?_
        refine X.iload (pc' := 120) at_118 rfl rfl ?_
        refine X.ifY (pc' := 180) at_120 (by decide) (by decide) (by decide) ?_
        refine X.newO (pc' := 183) (wd115 hw) (wd116 hw) (wd117 hw) at_180 (by decide) (by decide) rfl ?_
        intro T h br g_br Ex lt_br E_br D_br X1
        have z_br : Z.heap.size ≤ br := by rw [g_br]; exact X.old.1
        have s_br : s.heap.size ≤ br := by rw [g_br]; exact X.kp.1
        have ne_x7_br : x7 ≠ br := Nat.ne_of_lt (by rw [g_br]; exact lt_x7)
        have ne_x8_br : x8 ≠ br := Nat.ne_of_lt (by rw [g_br]; exact lt_x8)
        have ne_al_br : al ≠ br := Nat.ne_of_lt (by rw [g_br]; exact lt_al)
        replace lt_x7 := Nat.lt_of_lt_of_le lt_x7 Ex.1
        replace lt_x8 := Nat.lt_of_lt_of_le lt_x8 Ex.1
        replace S_x8 := S_x8.ext Ex
        replace lt_al := Nat.lt_of_lt_of_le lt_al Ex.1
        replace A_al := A_al.ext Ex
        replace X := X1
        have F_br_label : Fld Z h br "com/example/treegraft/treegraft/brackets/Bracket" "label" "Ljava/lang/String;" .null := D_br (Or.inr (wd220 hw)) (ty := (.object "java/lang/String")) (by decide)
        have F_br_word : Fld Z h br "com/example/treegraft/treegraft/brackets/Bracket" "word" "Ljava/lang/String;" .null := D_br (Or.inr (wd222 hw)) (ty := (.object "java/lang/String")) (by decide)
        have F_br_children : Fld Z h br "com/example/treegraft/treegraft/brackets/Bracket" "children" "Ljava/util/List;" .null := D_br (Or.inr (wd224 hw)) (ty := (.object "java/util/List")) (by decide)
        have F_br_line : Fld Z h br "com/example/treegraft/treegraft/brackets/Bracket" "line" "I" (.int (0 : Int32)) := D_br (Or.inr (wd226 hw)) (ty := .int) (by decide)
        refine X.dup (pc' := 184) at_183 rfl rfl ?_
        refine X.aload (pc' := 186) at_184 rfl rfl rfl ?_
        refine X.iload (pc' := 188) at_186 rfl rfl ?_
        refine X.ifN (pc' := 191) at_188 (by decide) rfl ?_
        refine X.aload (pc' := 193) at_191 rfl rfl rfl ?_
        refine X.goto (pc' := 197) at_193 (by decide) (by decide) ?_
        refine X.aload (pc' := 199) at_197 rfl rfl rfl ?_
        refine X.iloadN (pc' := 200) at_199 rfl rfl ?_
        refine X.callU (pc' := 203) (X.sSpecial rfl (wd118 hw) (wd119 hw) (wd120 hw) (by decide) rfl pd20 [(.ref x7), (.ref x8), (.ref al), (.int p4)] rfl rfl at_200) (rmBrW l Z a0 hw br (.ref x7) rfl x8 al p4 _ X.old eo SE E_eo el FE VE z_br E_br F_br_label F_br_word F_br_children F_br_line _ _ A_al) (wd120 hw) (wd117 hw) (leB rfl) (leB rfl) (leB rfl) (leB rfl) (sfS (Safe.exa X.al E_br (by decide) (by decide)) sf0) (allS z_br all0) (allS (Or.inr s_br) all0) rfl ?_
        intro T h L X K q
        obtain ⟨E_br, F_br_label, F_br_word, F_br_children, F_br_line⟩ := q
        refine X.astore (pc' := 205) #[.val (.int p1), .val (.int p2), .val (.int p3), .val (.int p4), .val (.int (1 : Int32)), .val (.int (0 : Int32)), .val (.int (1 : Int32)), .val (.ref x7), .val (.ref x8), .val (.ref al), .val (.ref br), .unset] at_203 rfl rfl rfl ?_
        refine X.aload (pc' := 207) at_205 rfl rfl rfl ?_
        refine X.callP (pc' := 210) (X.sVirtual (wd227 hw) (wd228 hw) (wd230 hw) (wd229 hw) (by decide) rfl pd13 E_br [] rfl rfl at_207 (X.nf (wd230 hw) rfl)) (rmIsW1 l Z a0 hw br _ X.old x8 F_br_word) (wd231 hw) (wd117 hw) (leB rfl) (leB rfl) (leB rfl) (leB rfl) rfl ?_
        intro T L v X q
        subst q
        refine X.istore (pc' := 212) #[.val (.int p1), .val (.int p2), .val (.int p3), .val (.int p4), .val (.int (1 : Int32)), .val (.int (0 : Int32)), .val (.int (1 : Int32)), .val (.ref x7), .val (.ref x8), .val (.ref al), .val (.ref br), .val (.int (1 : Int32))] at_210 rfl rfl ?_
        refine X.iload (pc' := 214) at_212 rfl rfl ?_
        refine X.iload (pc' := 216) at_214 rfl rfl ?_
        refine X.icN (pc' := 219) at_216 (by decide) rfl ?_
        refine X.iload (pc' := 221) at_219 rfl rfl ?_
        refine X.aload (pc' := 223) at_221 rfl rfl rfl ?_
        refine X.callP (pc' := 226) (X.sVirtual (wd232 hw) (wd233 hw) (wd235 hw) (wd234 hw) (by decide) rfl pd21 E_br [] rfl rfl at_223 (X.nf (wd230 hw) rfl)) (rmWord l Z a0 hw br _ X.old (.ref x8) rfl F_br_word) (wd236 hw) (wd117 hw) (leB rfl) (leB rfl) (leB rfl) (leB rfl) rfl ?_
        intro T L v X q
        subst q
        refine X.nullN (pc' := 229) at_226 rfl ?_
        refine X.iconst (pc' := 230) (1 : Int32) at_229 rfl rfl ?_
        refine X.goto (pc' := 234) at_230 (by decide) (by decide) ?_
        refine X.icN (pc' := 237) at_234 (by decide) rfl ?_
        refine X.iload (pc' := 239) at_237 rfl rfl ?_
        refine X.aload (pc' := 241) at_239 rfl rfl rfl ?_
        refine X.callP (pc' := 244) (X.sVirtual (wd237 hw) (wd238 hw) (wd240 hw) (wd239 hw) (by decide) rfl pd14 E_br [] rfl rfl at_241 (X.nf (wd230 hw) rfl)) (rmCh l Z a0 hw br _ X.old (.ref eo) rfl F_br_children) (wd241 hw) (wd117 hw) (leB rfl) (leB rfl) (leB rfl) (leB rfl) rfl ?_
        intro T L v X q
        subst q
        refine X.callP (pc' := 249) (X.sFace (y := (⟨"java/util/ImmutableCollections$ListN", "isEmpty", "()Z"⟩ : MethodName)) (wd242 hw) (wd123 hw) (wd124 hw) rfl (wd257 hw) (wd258 hw) (wd259 hw) (wd260 hw) (wd261 hw) (by decide) rfl pd13 (E_eo.ext X.old) [] rfl rfl at_244) (rmLNE l Z a0 hw eo _ X.old el (FE.ext X.old) (VE.ext X.old)) (wd263 hw) (wd262 hw) (leB rfl) (leB rfl) (leB rfl) (leB rfl) rfl ?_
        intro T L v X q
        subst q
        refine X.icN (pc' := 252) at_249 (by decide) rfl ?_
        refine X.aload (pc' := 254) at_252 rfl rfl rfl ?_
        refine X.callP (pc' := 257) (X.sVirtual (wd243 hw) (wd244 hw) (wd246 hw) (wd245 hw) (by decide) rfl pd22 E_br [] rfl rfl at_254 (X.nf (wd230 hw) rfl)) (rmLine l Z a0 hw br _ X.old p4 rfl F_br_line) (wd247 hw) (wd117 hw) (leB rfl) (leB rfl) (leB rfl) (leB rfl) rfl ?_
        intro T L v X q
        subst q
        refine X.iloadN (pc' := 258) at_257 rfl rfl ?_
        refine X.icN (pc' := 261) at_258 ((teq rfl).2) rfl ?_
        refine X.iconst (pc' := 262) (1 : Int32) at_261 rfl rfl ?_
        refine X.goto (pc' := 266) at_262 (by decide) (by decide) ?_
        exact X.retIC (by simp) rfl at_266 (by decide) (by decide) ⟨_, rfl, rfl⟩
    · refine X.ifN (pc' := 19) at_16 ((if0 _ _).trans (feq hq1).1) rfl ?_
      refine X.iconst (pc' := 20) (1 : Int32) at_19 rfl rfl ?_
      refine X.goto (pc' := 24) at_20 (by decide) (by decide) ?_
      refine X.istore (pc' := 26) #[.val (.int p1), .val (.int p2), .val (.int p3), .val (.int p4), .val (.int (1 : Int32)), .val (.int (1 : Int32)), .unset, .unset, .unset, .unset, .unset, .unset] at_24 rfl rfl ?_
      refine X.iloadN (pc' := 27) at_26 rfl rfl ?_
      refine X.iconst (pc' := 28) (4 : Int32) at_27 rfl rfl ?_
      refine X.iand (pc' := 29) at_28 rfl ?_
      by_cases hq2 : (p1 &&& (4 : Int32)) = 0
      · refine X.ifY (pc' := 36) at_29 ((if0 _ _).trans (teq hq2).1) (by decide) (by decide) ?_
        refine X.iconst (pc' := 37) (0 : Int32) at_36 rfl rfl ?_
        refine X.istore (pc' := 39) #[.val (.int p1), .val (.int p2), .val (.int p3), .val (.int p4), .val (.int (1 : Int32)), .val (.int (1 : Int32)), .val (.int (0 : Int32)), .unset, .unset, .unset, .unset, .unset] at_37 rfl rfl ?_
        refine X.iloadN (pc' := 40) at_39 rfl rfl ?_
        refine X.sipush (pc' := 43) (255 : Int32) at_40 rfl rfl ?_
        refine X.iand (pc' := 44) at_43 rfl ?_
        refine X.i2c (pc' := 45) at_44 rfl ?_
        generalize hc_c7 : ((p2 &&& (255 : Int32)).toUInt32.toUInt16.toUInt32.toInt32) = c7
        have r_c7 := chr255 hc_c7
        refine X.callV (pc' := 48) (X.sStatic (wd0 hw) (wd1 hw) (wd2 hw) (wd3 hw) (by decide) rfl pd16 [(.int c7)] rfl rfl at_45) (rmVOf l Z a0 hw c7 _ X.old z O2 hz r_c7.1) (wd3 hw) (wd2 hw) (leB rfl) (leB rfl) (leB rfl) (leB rfl) sf0 all0 all0 rfl ?_
        intro T h L v X K q
        obtain ⟨x7, rfl, le_x7, S_x7⟩ := q
        have lt_x7 := S_x7.lt
        refine X.astore (pc' := 50) #[.val (.int p1), .val (.int p2), .val (.int p3), .val (.int p4), .val (.int (1 : Int32)), .val (.int (1 : Int32)), .val (.int (0 : Int32)), .val (.ref x7), .unset, .unset, .unset, .unset] at_48 rfl rfl rfl ?_
        refine X.iload (pc' := 52) at_50 rfl rfl ?_
        refine X.ifN (pc' := 55) at_52 (by decide) rfl ?_
        refine X.newO (pc' := 58) (wd27 hw) (wd10 hw) (wd2 hw) at_55 (by decide) (by decide) rfl ?_
        intro T h x8 g_x8 Ex lt_x8 E_x8 D_x8 X1
        have z_x8 : Z.heap.size ≤ x8 := by rw [g_x8]; exact X.old.1
        have s_x8 : s.heap.size ≤ x8 := by rw [g_x8]; exact X.kp.1
        have ne_x7_x8 : x7 ≠ x8 := Nat.ne_of_lt (by rw [g_x8]; exact lt_x7)
        replace S_x7 := S_x7.ext Ex
        replace lt_x7 := Nat.lt_of_lt_of_le lt_x7 Ex.1
        replace X := X1
        have F_x8_value : Fld Z h x8 "java/lang/String" "value" "[B" .null := D_x8 (Or.inr (wd23 hw)) (ty := (.array .byte)) (by decide)
        have F_x8_coder : Fld Z h x8 "java/lang/String" "coder" "B" (.int (0 : Int32)) := D_x8 (Or.inr (wd25 hw)) (ty := .byte) (by decide)
        refine X.dup (pc' := 59) at_58 rfl rfl ?_
        refine X.iconst (pc' := 60) (0 : Int32) at_59 rfl rfl ?_
        refine X.newP (pc' := 62) (aty := .char) (wd26 hw) at_60 (by decide) 0 (by decide) (by decide) (by decide) (by decide) rfl ?_
        intro T h b8 ka_b8 g_b8 Ex lt_b8 V_b8 X1
        have z_b8 : Z.heap.size ≤ b8 := by rw [g_b8]; exact X.old.1
        have s_b8 : s.heap.size ≤ b8 := by rw [g_b8]; exact X.kp.1
        have ne_x7_b8 : x7 ≠ b8 := Nat.ne_of_lt (by rw [g_b8]; exact lt_x7)
        have ne_x8_b8 : x8 ≠ b8 := Nat.ne_of_lt (by rw [g_b8]; exact lt_x8)
        replace S_x7 := S_x7.ext Ex
        replace lt_x7 := Nat.lt_of_lt_of_le lt_x7 Ex.1
        replace E_x8 := E_x8.ext Ex
        replace lt_x8 := Nat.lt_of_lt_of_le lt_x8 Ex.1
        replace F_x8_value := F_x8_value.ext Ex
        replace F_x8_coder := F_x8_coder.ext Ex
        replace X := X1
        replace V_b8 : Arv Z h b8 ka_b8 .char (0 : Int32) [] (.int (0 : Int32)) := (Arv.pad V_b8 (pad_rep [] (.int (0 : Int32)) 0))
        refine X.coldU (pc' := 65) (X.sSpecial rfl (wd28 hw) (wd29 hw) (wd30 hw) (by decide) rfl pd17 [(.ref b8)] rfl rfl at_62) (rmE0 l Z a0 hw ew x8 b8 _ X.old z_x8 E_x8 F_x8_value F_x8_coder _ V_b8) (wd30 hw) (wd2 hw) (leB rfl) (leB rfl) (leB rfl) (leB rfl) (allS (Or.inr s_x8) all0) rfl ?_
        intro T vm h L X K hC S_x8
        have Ob1 := (obj E_x8 (wd10 hw))
        replace S_x7 := S_x7.keep1 K ne_x7_x8 Ob1
        replace lt_x7 := Nat.lt_of_lt_of_le lt_x7 K.1
        replace E_x8 := E_x8.keep K
        replace lt_x8 := Nat.lt_of_lt_of_le lt_x8 K.1
        replace V_b8 := V_b8.keep K (ninS (Ne.symm ne_x8_b8) nin0)
        replace lt_b8 := Nat.lt_of_lt_of_le lt_b8 K.1
        refine X.astore (pc' := 67) #[.val (.int p1), .val (.int p2), .val (.int p3), .val (.int p4), .val (.int (1 : Int32)), .val (.int (1 : Int32)), .val (.int (0 : Int32)), .val (.ref x7), .val (.ref x8), .unset, .unset, .unset] at_65 rfl rfl rfl ?_
        refine X.goto (pc' := 109) at_67 (by decide) (by decide) ?_
        refine X.newO (pc' := 112) (wd44 hw) (wd45 hw) (wd46 hw) at_109 (by decide) (by decide) rfl ?_
        intro T h al g_al Ex lt_al E_al D_al X1
        have z_al : Z.heap.size ≤ al := by rw [g_al]; exact X.old.1
        have s_al : s.heap.size ≤ al := by rw [g_al]; exact X.kp.1
        have ne_x7_al : x7 ≠ al := Nat.ne_of_lt (by rw [g_al]; exact lt_x7)
        have ne_x8_al : x8 ≠ al := Nat.ne_of_lt (by rw [g_al]; exact lt_x8)
        replace lt_x7 := Nat.lt_of_lt_of_le lt_x7 Ex.1
        replace lt_x8 := Nat.lt_of_lt_of_le lt_x8 Ex.1
        replace S_x8 := S_x8.ext Ex
        replace X := X1
        have F_al_elementData : Fld Z h al "java/util/ArrayList" "elementData" "[Ljava/lang/Object;" .null := D_al (Or.inl (wd67 hw)) (ty := (.array (.object "java/lang/Object"))) (by decide)
        have F_al_size : Fld Z h al "java/util/ArrayList" "size" "I" (.int (0 : Int32)) := D_al (Or.inl (wd92 hw)) (ty := .int) (by decide)
        have F_al_modCount : Fld Z h al "java/util/AbstractList" "modCount" "I" (.int (0 : Int32)) := D_al (Or.inl (wd64 hw)) (ty := .int) (by decide)
        refine X.dup (pc' := 113) at_112 rfl rfl ?_
        refine X.callU (pc' := 116) (X.sSpecial rfl (wd47 hw) (wd48 hw) (wd49 hw) (by decide) rfl pd4 [] rfl rfl at_113) (rmALI l Z a0 hw al _ X.old d0 SD VD z_al ⟨E_al, F_al_elementData, F_al_size, F_al_modCount⟩) (wd49 hw) (wd46 hw) (leB rfl) (leB rfl) (leB rfl) (leB rfl) (sfS (Safe.exa X.al E_al (by decide) (by decide)) sf0) (allS z_al all0) (allS (Or.inr s_al) all0) rfl ?_
        intro T h L X K A_al
        have Ob1 := (obj E_al (wd45 hw))
        replace lt_x7 := Nat.lt_of_lt_of_le lt_x7 K.1
        replace lt_x8 := Nat.lt_of_lt_of_le lt_x8 K.1
        replace S_x8 := S_x8.keep1 K ne_x8_al Ob1
        replace E_al := E_al.keep K
        replace lt_al := Nat.lt_of_lt_of_le lt_al K.1
        refine X.astore (pc' := 118) #[.val (.int p1), .val (.int p2), .val (.int p3), .val (.int p4), .val (.int (1 : Int32)), .val (.int (1 : Int32)), .val (.int (0 : Int32)), .val (.ref x7), .val (.ref x8), .val (.ref al), .unset, .unset] at_116 rfl rfl rfl ?_
        refine X.iload (pc' := 120) at_118 rfl rfl ?_
        refine X.ifY (pc' := 180) at_120 (by decide) (by decide) (by decide) ?_
        refine X.newO (pc' := 183) (wd115 hw) (wd116 hw) (wd117 hw) at_180 (by decide) (by decide) rfl ?_
        intro T h br g_br Ex lt_br E_br D_br X1
        have z_br : Z.heap.size ≤ br := by rw [g_br]; exact X.old.1
        have s_br : s.heap.size ≤ br := by rw [g_br]; exact X.kp.1
        have ne_x7_br : x7 ≠ br := Nat.ne_of_lt (by rw [g_br]; exact lt_x7)
        have ne_x8_br : x8 ≠ br := Nat.ne_of_lt (by rw [g_br]; exact lt_x8)
        have ne_al_br : al ≠ br := Nat.ne_of_lt (by rw [g_br]; exact lt_al)
        replace lt_x7 := Nat.lt_of_lt_of_le lt_x7 Ex.1
        replace lt_x8 := Nat.lt_of_lt_of_le lt_x8 Ex.1
        replace S_x8 := S_x8.ext Ex
        replace lt_al := Nat.lt_of_lt_of_le lt_al Ex.1
        replace A_al := A_al.ext Ex
        replace X := X1
        have F_br_label : Fld Z h br "com/example/treegraft/treegraft/brackets/Bracket" "label" "Ljava/lang/String;" .null := D_br (Or.inr (wd220 hw)) (ty := (.object "java/lang/String")) (by decide)
        have F_br_word : Fld Z h br "com/example/treegraft/treegraft/brackets/Bracket" "word" "Ljava/lang/String;" .null := D_br (Or.inr (wd222 hw)) (ty := (.object "java/lang/String")) (by decide)
        have F_br_children : Fld Z h br "com/example/treegraft/treegraft/brackets/Bracket" "children" "Ljava/util/List;" .null := D_br (Or.inr (wd224 hw)) (ty := (.object "java/util/List")) (by decide)
        have F_br_line : Fld Z h br "com/example/treegraft/treegraft/brackets/Bracket" "line" "I" (.int (0 : Int32)) := D_br (Or.inr (wd226 hw)) (ty := .int) (by decide)
        refine X.dup (pc' := 184) at_183 rfl rfl ?_
        refine X.aload (pc' := 186) at_184 rfl rfl rfl ?_
        refine X.iload (pc' := 188) at_186 rfl rfl ?_
        refine X.ifN (pc' := 191) at_188 (by decide) rfl ?_
        refine X.aload (pc' := 193) at_191 rfl rfl rfl ?_
        refine X.goto (pc' := 197) at_193 (by decide) (by decide) ?_
        refine X.aload (pc' := 199) at_197 rfl rfl rfl ?_
        refine X.iloadN (pc' := 200) at_199 rfl rfl ?_
        refine X.callU (pc' := 203) (X.sSpecial rfl (wd118 hw) (wd119 hw) (wd120 hw) (by decide) rfl pd20 [(.ref x7), (.ref x8), (.ref al), (.int p4)] rfl rfl at_200) (rmBrW l Z a0 hw br (.ref x7) rfl x8 al p4 _ X.old eo SE E_eo el FE VE z_br E_br F_br_label F_br_word F_br_children F_br_line _ _ A_al) (wd120 hw) (wd117 hw) (leB rfl) (leB rfl) (leB rfl) (leB rfl) (sfS (Safe.exa X.al E_br (by decide) (by decide)) sf0) (allS z_br all0) (allS (Or.inr s_br) all0) rfl ?_
        intro T h L X K q
        obtain ⟨E_br, F_br_label, F_br_word, F_br_children, F_br_line⟩ := q
        refine X.astore (pc' := 205) #[.val (.int p1), .val (.int p2), .val (.int p3), .val (.int p4), .val (.int (1 : Int32)), .val (.int (1 : Int32)), .val (.int (0 : Int32)), .val (.ref x7), .val (.ref x8), .val (.ref al), .val (.ref br), .unset] at_203 rfl rfl rfl ?_
        refine X.aload (pc' := 207) at_205 rfl rfl rfl ?_
        refine X.callP (pc' := 210) (X.sVirtual (wd227 hw) (wd228 hw) (wd230 hw) (wd229 hw) (by decide) rfl pd13 E_br [] rfl rfl at_207 (X.nf (wd230 hw) rfl)) (rmIsW1 l Z a0 hw br _ X.old x8 F_br_word) (wd231 hw) (wd117 hw) (leB rfl) (leB rfl) (leB rfl) (leB rfl) rfl ?_
        intro T L v X q
        subst q
        refine X.istore (pc' := 212) #[.val (.int p1), .val (.int p2), .val (.int p3), .val (.int p4), .val (.int (1 : Int32)), .val (.int (1 : Int32)), .val (.int (0 : Int32)), .val (.ref x7), .val (.ref x8), .val (.ref al), .val (.ref br), .val (.int (1 : Int32))] at_210 rfl rfl ?_
        refine X.iload (pc' := 214) at_212 rfl rfl ?_
        refine X.iload (pc' := 216) at_214 rfl rfl ?_
        refine X.icN (pc' := 219) at_216 (by decide) rfl ?_
        refine X.iload (pc' := 221) at_219 rfl rfl ?_
        refine X.aload (pc' := 223) at_221 rfl rfl rfl ?_
        refine X.callP (pc' := 226) (X.sVirtual (wd232 hw) (wd233 hw) (wd235 hw) (wd234 hw) (by decide) rfl pd21 E_br [] rfl rfl at_223 (X.nf (wd230 hw) rfl)) (rmWord l Z a0 hw br _ X.old (.ref x8) rfl F_br_word) (wd236 hw) (wd117 hw) (leB rfl) (leB rfl) (leB rfl) (leB rfl) rfl ?_
        intro T L v X q
        subst q
        refine X.nullN (pc' := 229) at_226 rfl ?_
        refine X.iconst (pc' := 230) (1 : Int32) at_229 rfl rfl ?_
        refine X.goto (pc' := 234) at_230 (by decide) (by decide) ?_
        refine X.icN (pc' := 237) at_234 (by decide) rfl ?_
        refine X.iload (pc' := 239) at_237 rfl rfl ?_
        refine X.aload (pc' := 241) at_239 rfl rfl rfl ?_
        refine X.callP (pc' := 244) (X.sVirtual (wd237 hw) (wd238 hw) (wd240 hw) (wd239 hw) (by decide) rfl pd14 E_br [] rfl rfl at_241 (X.nf (wd230 hw) rfl)) (rmCh l Z a0 hw br _ X.old (.ref eo) rfl F_br_children) (wd241 hw) (wd117 hw) (leB rfl) (leB rfl) (leB rfl) (leB rfl) rfl ?_
        intro T L v X q
        subst q
        refine X.callP (pc' := 249) (X.sFace (y := (⟨"java/util/ImmutableCollections$ListN", "isEmpty", "()Z"⟩ : MethodName)) (wd242 hw) (wd123 hw) (wd124 hw) rfl (wd257 hw) (wd258 hw) (wd259 hw) (wd260 hw) (wd261 hw) (by decide) rfl pd13 (E_eo.ext X.old) [] rfl rfl at_244) (rmLNE l Z a0 hw eo _ X.old el (FE.ext X.old) (VE.ext X.old)) (wd263 hw) (wd262 hw) (leB rfl) (leB rfl) (leB rfl) (leB rfl) rfl ?_
        intro T L v X q
        subst q
        refine X.icN (pc' := 252) at_249 (by decide) rfl ?_
        refine X.aload (pc' := 254) at_252 rfl rfl rfl ?_
        refine X.callP (pc' := 257) (X.sVirtual (wd243 hw) (wd244 hw) (wd246 hw) (wd245 hw) (by decide) rfl pd22 E_br [] rfl rfl at_254 (X.nf (wd230 hw) rfl)) (rmLine l Z a0 hw br _ X.old p4 rfl F_br_line) (wd247 hw) (wd117 hw) (leB rfl) (leB rfl) (leB rfl) (leB rfl) rfl ?_
        intro T L v X q
        subst q
        refine X.iloadN (pc' := 258) at_257 rfl rfl ?_
        refine X.icN (pc' := 261) at_258 ((teq rfl).2) rfl ?_
        refine X.iconst (pc' := 262) (1 : Int32) at_261 rfl rfl ?_
        refine X.goto (pc' := 266) at_262 (by decide) (by decide) ?_
        exact X.retIC (by simp) rfl at_266 (by decide) (by decide) ⟨_, rfl, rfl⟩
      · refine X.ifN (pc' := 32) at_29 ((if0 _ _).trans (feq hq2).1) rfl ?_
        refine X.iconst (pc' := 33) (1 : Int32) at_32 rfl rfl ?_
        refine X.goto (pc' := 37) at_33 (by decide) (by decide) ?_
        refine X.istore (pc' := 39) #[.val (.int p1), .val (.int p2), .val (.int p3), .val (.int p4), .val (.int (1 : Int32)), .val (.int (1 : Int32)), .val (.int (1 : Int32)), .unset, .unset, .unset, .unset, .unset] at_37 rfl rfl ?_
        refine X.iloadN (pc' := 40) at_39 rfl rfl ?_
        refine X.sipush (pc' := 43) (255 : Int32) at_40 rfl rfl ?_
        refine X.iand (pc' := 44) at_43 rfl ?_
        refine X.i2c (pc' := 45) at_44 rfl ?_
        generalize hc_c7 : ((p2 &&& (255 : Int32)).toUInt32.toUInt16.toUInt32.toInt32) = c7
        have r_c7 := chr255 hc_c7
        refine X.callV (pc' := 48) (X.sStatic (wd0 hw) (wd1 hw) (wd2 hw) (wd3 hw) (by decide) rfl pd16 [(.int c7)] rfl rfl at_45) (rmVOf l Z a0 hw c7 _ X.old z O2 hz r_c7.1) (wd3 hw) (wd2 hw) (leB rfl) (leB rfl) (leB rfl) (leB rfl) sf0 all0 all0 rfl ?_
        intro T h L v X K q
        obtain ⟨x7, rfl, le_x7, S_x7⟩ := q
        have lt_x7 := S_x7.lt
        refine X.astore (pc' := 50) #[.val (.int p1), .val (.int p2), .val (.int p3), .val (.int p4), .val (.int (1 : Int32)), .val (.int (1 : Int32)), .val (.int (1 : Int32)), .val (.ref x7), .unset, .unset, .unset, .unset] at_48 rfl rfl rfl ?_
        refine X.iload (pc' := 52) at_50 rfl rfl ?_
        refine X.ifN (pc' := 55) at_52 (by decide) rfl ?_
        refine X.newO (pc' := 58) (wd27 hw) (wd10 hw) (wd2 hw) at_55 (by decide) (by decide) rfl ?_
        intro T h x8 g_x8 Ex lt_x8 E_x8 D_x8 X1
        have z_x8 : Z.heap.size ≤ x8 := by rw [g_x8]; exact X.old.1
        have s_x8 : s.heap.size ≤ x8 := by rw [g_x8]; exact X.kp.1
        have ne_x7_x8 : x7 ≠ x8 := Nat.ne_of_lt (by rw [g_x8]; exact lt_x7)
        replace S_x7 := S_x7.ext Ex
        replace lt_x7 := Nat.lt_of_lt_of_le lt_x7 Ex.1
        replace X := X1
        have F_x8_value : Fld Z h x8 "java/lang/String" "value" "[B" .null := D_x8 (Or.inr (wd23 hw)) (ty := (.array .byte)) (by decide)
        have F_x8_coder : Fld Z h x8 "java/lang/String" "coder" "B" (.int (0 : Int32)) := D_x8 (Or.inr (wd25 hw)) (ty := .byte) (by decide)
        refine X.dup (pc' := 59) at_58 rfl rfl ?_
        refine X.iconst (pc' := 60) (0 : Int32) at_59 rfl rfl ?_
        refine X.newP (pc' := 62) (aty := .char) (wd26 hw) at_60 (by decide) 0 (by decide) (by decide) (by decide) (by decide) rfl ?_
        intro T h b8 ka_b8 g_b8 Ex lt_b8 V_b8 X1
        have z_b8 : Z.heap.size ≤ b8 := by rw [g_b8]; exact X.old.1
        have s_b8 : s.heap.size ≤ b8 := by rw [g_b8]; exact X.kp.1
        have ne_x7_b8 : x7 ≠ b8 := Nat.ne_of_lt (by rw [g_b8]; exact lt_x7)
        have ne_x8_b8 : x8 ≠ b8 := Nat.ne_of_lt (by rw [g_b8]; exact lt_x8)
        replace S_x7 := S_x7.ext Ex
        replace lt_x7 := Nat.lt_of_lt_of_le lt_x7 Ex.1
        replace E_x8 := E_x8.ext Ex
        replace lt_x8 := Nat.lt_of_lt_of_le lt_x8 Ex.1
        replace F_x8_value := F_x8_value.ext Ex
        replace F_x8_coder := F_x8_coder.ext Ex
        replace X := X1
        replace V_b8 : Arv Z h b8 ka_b8 .char (0 : Int32) [] (.int (0 : Int32)) := (Arv.pad V_b8 (pad_rep [] (.int (0 : Int32)) 0))
        refine X.coldU (pc' := 65) (X.sSpecial rfl (wd28 hw) (wd29 hw) (wd30 hw) (by decide) rfl pd17 [(.ref b8)] rfl rfl at_62) (rmE0 l Z a0 hw ew x8 b8 _ X.old z_x8 E_x8 F_x8_value F_x8_coder _ V_b8) (wd30 hw) (wd2 hw) (leB rfl) (leB rfl) (leB rfl) (leB rfl) (allS (Or.inr s_x8) all0) rfl ?_
        intro T vm h L X K hC S_x8
        have Ob1 := (obj E_x8 (wd10 hw))
        replace S_x7 := S_x7.keep1 K ne_x7_x8 Ob1
        replace lt_x7 := Nat.lt_of_lt_of_le lt_x7 K.1
        replace E_x8 := E_x8.keep K
        replace lt_x8 := Nat.lt_of_lt_of_le lt_x8 K.1
        replace V_b8 := V_b8.keep K (ninS (Ne.symm ne_x8_b8) nin0)
        replace lt_b8 := Nat.lt_of_lt_of_le lt_b8 K.1
        refine X.astore (pc' := 67) #[.val (.int p1), .val (.int p2), .val (.int p3), .val (.int p4), .val (.int (1 : Int32)), .val (.int (1 : Int32)), .val (.int (1 : Int32)), .val (.ref x7), .val (.ref x8), .unset, .unset, .unset] at_65 rfl rfl rfl ?_
        refine X.goto (pc' := 109) at_67 (by decide) (by decide) ?_
        refine X.newO (pc' := 112) (wd44 hw) (wd45 hw) (wd46 hw) at_109 (by decide) (by decide) rfl ?_
        intro T h al g_al Ex lt_al E_al D_al X1
        have z_al : Z.heap.size ≤ al := by rw [g_al]; exact X.old.1
        have s_al : s.heap.size ≤ al := by rw [g_al]; exact X.kp.1
        have ne_x7_al : x7 ≠ al := Nat.ne_of_lt (by rw [g_al]; exact lt_x7)
        have ne_x8_al : x8 ≠ al := Nat.ne_of_lt (by rw [g_al]; exact lt_x8)
        replace lt_x7 := Nat.lt_of_lt_of_le lt_x7 Ex.1
        replace lt_x8 := Nat.lt_of_lt_of_le lt_x8 Ex.1
        replace S_x8 := S_x8.ext Ex
        replace X := X1
        have F_al_elementData : Fld Z h al "java/util/ArrayList" "elementData" "[Ljava/lang/Object;" .null := D_al (Or.inl (wd67 hw)) (ty := (.array (.object "java/lang/Object"))) (by decide)
        have F_al_size : Fld Z h al "java/util/ArrayList" "size" "I" (.int (0 : Int32)) := D_al (Or.inl (wd92 hw)) (ty := .int) (by decide)
        have F_al_modCount : Fld Z h al "java/util/AbstractList" "modCount" "I" (.int (0 : Int32)) := D_al (Or.inl (wd64 hw)) (ty := .int) (by decide)
        refine X.dup (pc' := 113) at_112 rfl rfl ?_
        refine X.callU (pc' := 116) (X.sSpecial rfl (wd47 hw) (wd48 hw) (wd49 hw) (by decide) rfl pd4 [] rfl rfl at_113) (rmALI l Z a0 hw al _ X.old d0 SD VD z_al ⟨E_al, F_al_elementData, F_al_size, F_al_modCount⟩) (wd49 hw) (wd46 hw) (leB rfl) (leB rfl) (leB rfl) (leB rfl) (sfS (Safe.exa X.al E_al (by decide) (by decide)) sf0) (allS z_al all0) (allS (Or.inr s_al) all0) rfl ?_
        intro T h L X K A_al
        have Ob1 := (obj E_al (wd45 hw))
        replace lt_x7 := Nat.lt_of_lt_of_le lt_x7 K.1
        replace lt_x8 := Nat.lt_of_lt_of_le lt_x8 K.1
        replace S_x8 := S_x8.keep1 K ne_x8_al Ob1
        replace E_al := E_al.keep K
        replace lt_al := Nat.lt_of_lt_of_le lt_al K.1
        refine X.astore (pc' := 118) #[.val (.int p1), .val (.int p2), .val (.int p3), .val (.int p4), .val (.int (1 : Int32)), .val (.int (1 : Int32)), .val (.int (1 : Int32)), .val (.ref x7), .val (.ref x8), .val (.ref al), .unset, .unset] at_116 rfl rfl rfl ?_
        refine X.iload (pc' := 120) at_118 rfl rfl ?_
        refine X.ifY (pc' := 180) at_120 (by decide) (by decide) (by decide) ?_
        refine X.newO (pc' := 183) (wd115 hw) (wd116 hw) (wd117 hw) at_180 (by decide) (by decide) rfl ?_
        intro T h br g_br Ex lt_br E_br D_br X1
        have z_br : Z.heap.size ≤ br := by rw [g_br]; exact X.old.1
        have s_br : s.heap.size ≤ br := by rw [g_br]; exact X.kp.1
        have ne_x7_br : x7 ≠ br := Nat.ne_of_lt (by rw [g_br]; exact lt_x7)
        have ne_x8_br : x8 ≠ br := Nat.ne_of_lt (by rw [g_br]; exact lt_x8)
        have ne_al_br : al ≠ br := Nat.ne_of_lt (by rw [g_br]; exact lt_al)
        replace lt_x7 := Nat.lt_of_lt_of_le lt_x7 Ex.1
        replace lt_x8 := Nat.lt_of_lt_of_le lt_x8 Ex.1
        replace S_x8 := S_x8.ext Ex
        replace lt_al := Nat.lt_of_lt_of_le lt_al Ex.1
        replace A_al := A_al.ext Ex
        replace X := X1
        have F_br_label : Fld Z h br "com/example/treegraft/treegraft/brackets/Bracket" "label" "Ljava/lang/String;" .null := D_br (Or.inr (wd220 hw)) (ty := (.object "java/lang/String")) (by decide)
        have F_br_word : Fld Z h br "com/example/treegraft/treegraft/brackets/Bracket" "word" "Ljava/lang/String;" .null := D_br (Or.inr (wd222 hw)) (ty := (.object "java/lang/String")) (by decide)
        have F_br_children : Fld Z h br "com/example/treegraft/treegraft/brackets/Bracket" "children" "Ljava/util/List;" .null := D_br (Or.inr (wd224 hw)) (ty := (.object "java/util/List")) (by decide)
        have F_br_line : Fld Z h br "com/example/treegraft/treegraft/brackets/Bracket" "line" "I" (.int (0 : Int32)) := D_br (Or.inr (wd226 hw)) (ty := .int) (by decide)
        refine X.dup (pc' := 184) at_183 rfl rfl ?_
        refine X.aload (pc' := 186) at_184 rfl rfl rfl ?_
        refine X.iload (pc' := 188) at_186 rfl rfl ?_
        refine X.ifN (pc' := 191) at_188 (by decide) rfl ?_
        refine X.aload (pc' := 193) at_191 rfl rfl rfl ?_
        refine X.goto (pc' := 197) at_193 (by decide) (by decide) ?_
        refine X.aload (pc' := 199) at_197 rfl rfl rfl ?_
        refine X.iloadN (pc' := 200) at_199 rfl rfl ?_
        refine X.callU (pc' := 203) (X.sSpecial rfl (wd118 hw) (wd119 hw) (wd120 hw) (by decide) rfl pd20 [(.ref x7), (.ref x8), (.ref al), (.int p4)] rfl rfl at_200) (rmBrW l Z a0 hw br (.ref x7) rfl x8 al p4 _ X.old eo SE E_eo el FE VE z_br E_br F_br_label F_br_word F_br_children F_br_line _ _ A_al) (wd120 hw) (wd117 hw) (leB rfl) (leB rfl) (leB rfl) (leB rfl) (sfS (Safe.exa X.al E_br (by decide) (by decide)) sf0) (allS z_br all0) (allS (Or.inr s_br) all0) rfl ?_
        intro T h L X K q
        obtain ⟨E_br, F_br_label, F_br_word, F_br_children, F_br_line⟩ := q
        refine X.astore (pc' := 205) #[.val (.int p1), .val (.int p2), .val (.int p3), .val (.int p4), .val (.int (1 : Int32)), .val (.int (1 : Int32)), .val (.int (1 : Int32)), .val (.ref x7), .val (.ref x8), .val (.ref al), .val (.ref br), .unset] at_203 rfl rfl rfl ?_
        refine X.aload (pc' := 207) at_205 rfl rfl rfl ?_
        refine X.callP (pc' := 210) (X.sVirtual (wd227 hw) (wd228 hw) (wd230 hw) (wd229 hw) (by decide) rfl pd13 E_br [] rfl rfl at_207 (X.nf (wd230 hw) rfl)) (rmIsW1 l Z a0 hw br _ X.old x8 F_br_word) (wd231 hw) (wd117 hw) (leB rfl) (leB rfl) (leB rfl) (leB rfl) rfl ?_
        intro T L v X q
        subst q
        refine X.istore (pc' := 212) #[.val (.int p1), .val (.int p2), .val (.int p3), .val (.int p4), .val (.int (1 : Int32)), .val (.int (1 : Int32)), .val (.int (1 : Int32)), .val (.ref x7), .val (.ref x8), .val (.ref al), .val (.ref br), .val (.int (1 : Int32))] at_210 rfl rfl ?_
        refine X.iload (pc' := 214) at_212 rfl rfl ?_
        refine X.iload (pc' := 216) at_214 rfl rfl ?_
        refine X.icN (pc' := 219) at_216 (by decide) rfl ?_
        refine X.iload (pc' := 221) at_219 rfl rfl ?_
        refine X.aload (pc' := 223) at_221 rfl rfl rfl ?_
        refine X.callP (pc' := 226) (X.sVirtual (wd232 hw) (wd233 hw) (wd235 hw) (wd234 hw) (by decide) rfl pd21 E_br [] rfl rfl at_223 (X.nf (wd230 hw) rfl)) (rmWord l Z a0 hw br _ X.old (.ref x8) rfl F_br_word) (wd236 hw) (wd117 hw) (leB rfl) (leB rfl) (leB rfl) (leB rfl) rfl ?_
        intro T L v X q
        subst q
        refine X.nullN (pc' := 229) at_226 rfl ?_
        refine X.iconst (pc' := 230) (1 : Int32) at_229 rfl rfl ?_
        refine X.goto (pc' := 234) at_230 (by decide) (by decide) ?_
        refine X.icN (pc' := 237) at_234 (by decide) rfl ?_
        refine X.iload (pc' := 239) at_237 rfl rfl ?_
        refine X.aload (pc' := 241) at_239 rfl rfl rfl ?_
        refine X.callP (pc' := 244) (X.sVirtual (wd237 hw) (wd238 hw) (wd240 hw) (wd239 hw) (by decide) rfl pd14 E_br [] rfl rfl at_241 (X.nf (wd230 hw) rfl)) (rmCh l Z a0 hw br _ X.old (.ref eo) rfl F_br_children) (wd241 hw) (wd117 hw) (leB rfl) (leB rfl) (leB rfl) (leB rfl) rfl ?_
        intro T L v X q
        subst q
        refine X.callP (pc' := 249) (X.sFace (y := (⟨"java/util/ImmutableCollections$ListN", "isEmpty", "()Z"⟩ : MethodName)) (wd242 hw) (wd123 hw) (wd124 hw) rfl (wd257 hw) (wd258 hw) (wd259 hw) (wd260 hw) (wd261 hw) (by decide) rfl pd13 (E_eo.ext X.old) [] rfl rfl at_244) (rmLNE l Z a0 hw eo _ X.old el (FE.ext X.old) (VE.ext X.old)) (wd263 hw) (wd262 hw) (leB rfl) (leB rfl) (leB rfl) (leB rfl) rfl ?_
        intro T L v X q
        subst q
        refine X.icN (pc' := 252) at_249 (by decide) rfl ?_
        refine X.aload (pc' := 254) at_252 rfl rfl rfl ?_
        refine X.callP (pc' := 257) (X.sVirtual (wd243 hw) (wd244 hw) (wd246 hw) (wd245 hw) (by decide) rfl pd22 E_br [] rfl rfl at_254 (X.nf (wd230 hw) rfl)) (rmLine l Z a0 hw br _ X.old p4 rfl F_br_line) (wd247 hw) (wd117 hw) (leB rfl) (leB rfl) (leB rfl) (leB rfl) rfl ?_
        intro T L v X q
        subst q
        refine X.iloadN (pc' := 258) at_257 rfl rfl ?_
        refine X.icN (pc' := 261) at_258 ((teq rfl).2) rfl ?_
        refine X.iconst (pc' := 262) (1 : Int32) at_261 rfl rfl ?_
        refine X.goto (pc' := 266) at_262 (by decide) (by decide) ?_
        exact X.retIC (by simp) rfl at_266 (by decide) (by decide) ⟨_, rfl, rfl⟩
set_option maxRecDepth 65536 in
set_option maxHeartbeats 40000000 in
theorem comes_1 {Post : Tables → Env → Array Value → State → Outcome → State → Prop} (hpost : ∀ tb e args s v u, (limb_1_1.after args s (.returned v) u = true ∧ limb_1_2.after args s (.returned v) u = true ∧ True) → ReturnedEndW s (.returned v) u (Jvm.fieldLocs frame_1_writes args s ++ Jvm.arrayLocs frame_1_arrays args s ++ Jvm.staticLocs frame_1_statics s) 48 1216 → Post tb e args s (.returned v) u) :
    ArmFor flags0 classFile x code maxLocals ret World_1 tables_1 room_1 Calls_1 rest_1 Pre_1 Post := by
  intro l hfl _ _ p e ha hc hk s m args below hf hA hF happ hP
  obtain ⟨hcalls, hrest, hpre⟩ := hP
  obtain ⟨-, -, -, hnamed, -, -, -, hat⟩ := (Spec.applies_iff hf).mp happ
  obtain ⟨hg, hn⟩ := and_e (Cond.before_iff.mp (show (Jvm.Cond.and given_1 narrow_1).before args s = true from hpre))
  obtain ⟨h1, g0⟩ := and_e hg
  obtain ⟨k0, g1⟩ := and_e g0
  obtain ⟨k1, g2⟩ := and_e g1
  obtain ⟨k2, g3⟩ := and_e g2
  have k3 := g3
  obtain ⟨w0, w1, w2, w3, rfl⟩ : ∃ w0 w1 w2 w3 : Value, args = #[w0, w1, w2, w3] := by
    have hs : args.size = 4 := by simpa [Cond.value, given_1] using h1
    obtain ⟨L⟩ := args
    match L, hs with
    | [w0, w1, w2, w3], _ => exact ⟨w0, w1, w2, w3, rfl⟩
  have hw := fun d (hd : d ∈ tables_1) => atoms_spec (ws := Jvm.Cond.code x code maxLocals ret :: tables_1) hat d (List.mem_cons_of_mem _ hd)
  obtain ⟨hsets, hown0⟩ := atoms_of _ (rest_1_c_eq ▸ (show rest_1_c.before _ s = true from hrest))
  obtain ⟨i0, e0⟩ := is_v k0
  obtain rfl : w0 = (.int i0) := Option.some.inj e0
  obtain ⟨i1, e1⟩ := is_v k1
  obtain rfl : w1 = (.int i1) := Option.some.inj e1
  obtain ⟨i2, e2⟩ := is_v k2
  obtain rfl : w2 = (.int i2) := Option.some.inj e2
  obtain ⟨i3, e3⟩ := is_v k3
  obtain rfl : w3 = (.int i3) := Option.some.inj e3
  have hcw := hsets _ (List.mem_of_getElem? (i := 2) rfl)
  have ncs := not_v (Cond.before_iff.mp hcw)
  obtain ⟨zcs, ecs⟩ := is_v (Cond.before_iff.mp (hsets _ (List.mem_of_getElem? (i := 1) rfl)))
  have O2 : Sta s s.heap "java/lang/String" "COMPACT_STRINGS" "Z" (.int zcs) := Sta.start ecs (Or.inl (hsets _ (List.mem_of_getElem? (i := 0) rfl)))
  have hcs : ¬ (zcs = (0 : Int32)) := gotF (Cond.eq_ints ecs (Term.int_eval (0))) ncs
  obtain ⟨d0, ed0⟩ := arr_v (Cond.before_iff.mp (hsets _ (List.mem_of_getElem? (i := 15) rfl)))
  have SD : Sta s s.heap "java/util/ArrayList" "DEFAULTCAPACITY_EMPTY_ELEMENTDATA" "[Ljava/lang/Object;" (.ref d0) := Sta.start ed0 (Or.inr ⟨(wd46 hw), hsets _ (List.mem_of_getElem? (i := 11) rfl)⟩)
  have VD : Emp s s.heap d0 := Emp.start ed0 (hsets _ (List.mem_of_getElem? (i := 15) rfl)) (hsets _ (List.mem_of_getElem? (i := 17) rfl))
  obtain ⟨eo, eeo⟩ := exa_v (Cond.before_iff.mp (hsets _ (List.mem_of_getElem? (i := 20) rfl)))
  have SE : Sta s s.heap "java/util/ImmutableCollections" "EMPTY_LIST" "Ljava/util/ImmutableCollections$ListN;" (.ref eo) := Sta.start eeo (Or.inl (hsets _ (List.mem_of_getElem? (i := 19) rfl)))
  have E_eo : Exa s s.heap eo "java/util/ImmutableCollections$ListN" := Exa.start eeo (Cond.before_iff.mp (hsets _ (List.mem_of_getElem? (i := 20) rfl)))
  obtain ⟨el, eel⟩ := arr_v (Cond.before_iff.mp (hsets _ (List.mem_of_getElem? (i := 21) rfl)))
  have FE : Fld s s.heap eo "java/util/ImmutableCollections$ListN" "elements" "[Ljava/lang/Object;" (.ref el) := Fld.start (fld_ev eeo eel)
  have VE : Emp s s.heap el := Emp.start eel (hsets _ (List.mem_of_getElem? (i := 21) rfl)) (hsets _ (List.mem_of_getElem? (i := 23) rfl))
  obtain ⟨mc_o, mk_o, mo, M_o⟩ := hcalls.1
  replace M_o : Mrr s "[Ljava/lang/Object;" mo := ⟨mc_o, mk_o, M_o.1, M_o.2.1, M_o.2.2.1⟩
  obtain ⟨mc_a, mk_a, ma, M_a⟩ := hcalls.2.1
  replace M_a : Mrr s "java/util/ArrayList" ma := ⟨mc_a, mk_a, M_a.1, M_a.2.1, M_a.2.2.1⟩
  obtain ⟨mc_u, mk_u, mu, M_u⟩ := hcalls.2.2.1
  replace M_u : Mrr s "java/util/Collections$UnmodifiableList" mu := ⟨mc_u, mk_u, M_u.1, M_u.2.1, M_u.2.2.1⟩
  obtain ⟨mc_r, mk_r, mr, M_r⟩ := hcalls.2.2.2.1
  replace M_r : Mrr s "java/util/Collections$UnmodifiableRandomAccessList" mr := ⟨mc_r, mk_r, M_r.1, M_r.2.1, M_r.2.2.1⟩
  have HC : CHv s consts_1 s.vm s.heap := CHv.start (a0 := _) (ew1 hw) (fun q hq => hcalls.2.2.2.2.1 q hq) hcw (wd14 hw) (wd10 hw)
  obtain ⟨n, o, h1, h2, h3, v, L, rfl, ⟨⟨w, rfl, rfl⟩, N, -, -⟩, -, hq⟩ := rm0 l s _ hw (ew1 hw) i0 i1 i2 i3 s.heap ⟨Nat.le_refl _, fun _ _ q => q⟩ zcs O2 hcs d0 SD VD eo SE E_eo el FE VE mo M_o ma M_a mu M_u mr M_r p e ha hc hk s m _ below hf ((Spec.applies_iff_loose hf).mp happ).1 ⟨rfl, State.Warmed39.refl s, rfl, HC⟩ trivial
  refine ⟨n, _, h1, h2, h3, hpost _ _ _ _ _ _ ⟨Cond.after_iff.mpr rfl, Cond.after_iff.mpr (eq_i res_at (Term.int_eval (1)) rfl), trivial⟩ ⟨hq.1, hq.2.1, hq.2.2.1, (hq.2.2.2.sift fun y hy => Or.inr (N y hy)).mono (by decide) (by decide)⟩⟩
theorem main_1_1 : Claimed_1_1 := comes_1 fun _ _ _ _ _ _ h hF => ⟨h.1, hF⟩
theorem main_1_2 : Claimed_1_2 := comes_1 fun _ _ _ _ _ _ h hF => ⟨h.2.1, hF⟩
end Jvm.Pilot.@@N@@
namespace Jvm.Pilot.@@N@@
open Jvm Jvm.ClassFile Sem Op Lib Jvm.Free Jvm.Stand Jvm.Pilot.@@N@@.Jvm.D
/-! MADE BY PROGRAM (witnessworld.py) out of the Statement's table words and the real class files: 44 classes; the members and pool entries that the words name. The judged class is class 1, her method 1. -/
namespace start1
open Jvm.ClassFile
def u (s : String) : CpInfo := .utf8 (stringToUtf16 s)
/-- a pool by its gaps: so many unusable entries, then the entry; so many at the end -/
def gap : Nat → List CpInfo → List CpInfo
  | 0, r => r
  | n + 1, r => .unusable :: gap n r
def poolList (es : List (Nat × CpInfo)) (last : Nat) : List CpInfo := es.foldr (fun e r => gap e.1 (e.2 :: r)) (gap last [])
def pool (es : List (Nat × CpInfo)) (last : Nat) : Array CpInfo := ⟨poolList es last⟩
def fileOf (pool : Array CpInfo) (this : Nat) (attrs : Array Attribute := #[]) (ms : Array MethodInfo := #[]) (fl : Nat := 33) (sup : Nat := 0) (ifs : Array Nat := #[]) (fds : Array FieldInfo := #[]) : ClassFile where
  minorVersion := 0
  majorVersion := 65
  constantPool := pool
  accessFlags := fl
  thisClass := this
  superClass := sup
  interfaces := ifs
  fields := fds
  methods := ms
  attributes := attrs
def plain (name : String) (sup : Option ClassId) : Class where
  name := name
  kind := .ordinary
  loader := none
  accessFlags := 33
  super := sup
  interfaces := #[]
  cf := none
  fields := #[]
  methods := #[]
  instanceTypes := #[]
  staticTypes := #[]
  resolved := #[]
  callSites := []
  init := .initialized
  statics := none
  mirror := none

def pool0 : Array CpInfo := pool [(5, u "<init>"), (0, u "()V"), (1, .class_ 10), (1, u "java/lang/Object"), (0, u "getClass"), (0, u "()Ljava/lang/Class;")] 111

def k0c0 : Code := { maxStack := 0, maxLocals := 1, code := object_method_1_code, exceptionTable := #[], attributes := #[] }
def k0m0 : Method := { name := "<init>", desc := "()V", sig := { parameters := [], returnType := none }, accessFlags := 1, code := some k0c0 }
def k0m1 : Method := { name := "getClass", desc := "()Ljava/lang/Class;", sig := { parameters := [], returnType := some (.object "java/lang/Class") }, accessFlags := 273, code := none }
/-- java/lang/Object -/
def k0 : Class := { plain "java/lang/Object" none with
  accessFlags := 33
  interfaces := #[]
  cf := some (fileOf pool0 8 #[] #[{ accessFlags := 1, nameIndex := 5, descriptorIndex := 6, attributes := #[] }, { accessFlags := 273, nameIndex := 11, descriptorIndex := 12, attributes := #[] }] 33 0 #[] #[])
  fields := #[]
  methods := #[k0m0, k0m1]
  instanceTypes := #[]
  staticTypes := #[]
  resolved := Array.replicate 124 none
  statics := none }

def pool1 : Array CpInfo := pool [(2, .class_ 4), (0, .nameAndType 5 6), (0, u "java/lang/Object"), (0, u "<init>"), (0, u "()V"), (0, .methodref 8 9), (0, .class_ 10), (0, .nameAndType 11 12), (0, u "java/lang/String"), (0, u "valueOf"), (0, u "(C)Ljava/lang/String;"), (0, .methodref 8 14), (0, .nameAndType 5 15), (0, u "([C)V"), (0, .class_ 17), (0, u "java/util/ArrayList"), (0, .methodref 16 3), (0, .class_ 20), (0, u "com/example/treegraft/treegraft/brackets/Atom"), (0, .methodref 19 22), (0, .nameAndType 5 23), (0, u "(Ljava/lang/String;I)V"), (0, .methodref 16 25), (0, .nameAndType 26 27), (0, u "add"), (0, u "(Ljava/lang/Object;)Z"), (0, .class_ 29), (0, u "com/example/treegraft/treegraft/brackets/Bracket"), (0, .methodref 28 31), (0, .nameAndType 5 32), (0, u "(Ljava/lang/String;Ljava/lang/String;Ljava/util/List;I)V"), (0, .methodref 28 34), (0, .nameAndType 35 36), (0, u "isWord"), (0, u "()Z"), (0, .methodref 28 38), (0, .nameAndType 39 40), (0, u "word"), (0, u "()Ljava/lang/String;"), (0, .methodref 28 42), (0, .nameAndType 43 44), (0, u "children"), (0, u "()Ljava/util/List;"), (0, .interfaceMethodref 46 47), (0, .class_ 48), (0, .nameAndType 49 36), (0, u "java/util/List"), (0, u "isEmpty"), (0, .methodref 28 51), (0, .nameAndType 52 53), (0, u "line"), (0, u "()I"), (0, .class_ 55), (0, u "com/example/treegraft/treegraft/brackets/BracketIsWordPinLaw"), (2, u "law"), (0, u "(IIII)Z")] 3

def k1m0 : Method := { name := "<init>", desc := "()V", sig := { parameters := [], returnType := none }, accessFlags := 1, code := none }
def k1c1 : Code := { maxStack := 6, maxLocals := 12, code := code, exceptionTable := #[], attributes := #[] }
def k1m1 : Method := { name := "law", desc := "(IIII)Z", sig := { parameters := [.int, .int, .int, .int], returnType := some .boolean }, accessFlags := 9, code := some k1c1 }
/-- com/example/treegraft/treegraft/brackets/BracketIsWordPinLaw -/
def k1 : Class := { plain "com/example/treegraft/treegraft/brackets/BracketIsWordPinLaw" (some 0) with
  accessFlags := 49
  interfaces := #[]
  cf := some (fileOf pool1 54 #[] #[{ accessFlags := 1, nameIndex := 5, descriptorIndex := 6, attributes := #[] }, { accessFlags := 9, nameIndex := 58, descriptorIndex := 59, attributes := #[] }] 49 2 #[] #[])
  fields := #[]
  methods := #[k1m0, k1m1]
  instanceTypes := #[]
  staticTypes := #[]
  resolved := Array.replicate 63 none
  statics := none }

def pool2 : Array CpInfo := pool [(1, .class_ 2), (0, u "java/io/Serializable"), (0, .class_ 4), (0, u "java/lang/Object")] 2

/-- java/io/Serializable -/
def k2 : Class := { plain "java/io/Serializable" (some 0) with
  accessFlags := 1537
  interfaces := #[]
  cf := some (fileOf pool2 1 #[] #[] 1537 3 #[] #[])
  fields := #[]
  methods := #[]
  instanceTypes := #[]
  staticTypes := #[]
  resolved := Array.replicate 7 none
  statics := none }

def pool3 : Array CpInfo := pool [(1, .class_ 2), (0, u "java/lang/Comparable"), (0, .class_ 4), (0, u "java/lang/Object")] 7

/-- java/lang/Comparable -/
def k3 : Class := { plain "java/lang/Comparable" (some 0) with
  accessFlags := 1537
  interfaces := #[]
  cf := some (fileOf pool3 1 #[] #[] 1537 3 #[] #[])
  fields := #[]
  methods := #[]
  instanceTypes := #[]
  staticTypes := #[]
  resolved := Array.replicate 12 none
  statics := none }

def pool4 : Array CpInfo := pool [(2, .class_ 4), (1, u "java/lang/CharSequence"), (42, .class_ 48), (0, u "java/lang/CharSequence$1CodePointIterator"), (10, .class_ 60), (0, u "java/lang/CharSequence$1CharIterator"), (5, .class_ 67), (0, u "java/lang/Object")] 63

/-- java/lang/CharSequence -/
def k4 : Class := { plain "java/lang/CharSequence" (some 0) with
  accessFlags := 1537
  interfaces := #[]
  cf := some (fileOf pool4 2 #[.nestMembers #[47, 59]] #[] 1537 66 #[] #[])
  fields := #[]
  methods := #[]
  instanceTypes := #[]
  staticTypes := #[]
  resolved := Array.replicate 131 none
  statics := none }

def pool5 : Array CpInfo := pool [(1, .class_ 2), (0, u "java/lang/constant/Constable"), (0, .class_ 4), (0, u "java/lang/Object")] 6

/-- java/lang/constant/Constable -/
def k5 : Class := { plain "java/lang/constant/Constable" (some 0) with
  accessFlags := 1537
  interfaces := #[]
  cf := some (fileOf pool5 1 #[] #[] 1537 3 #[] #[])
  fields := #[]
  methods := #[]
  instanceTypes := #[]
  staticTypes := #[]
  resolved := Array.replicate 11 none
  statics := none }

def pool6 : Array CpInfo := pool [(1, .class_ 2), (0, u "java/lang/constant/ConstantDesc"), (0, .class_ 4), (0, u "java/lang/Object")] 32

/-- java/lang/constant/ConstantDesc -/
def k6 : Class := { plain "java/lang/constant/ConstantDesc" (some 0) with
  accessFlags := 1537
  interfaces := #[]
  cf := some (fileOf pool6 1 #[] #[] 1537 3 #[] #[])
  fields := #[]
  methods := #[]
  instanceTypes := #[]
  staticTypes := #[]
  resolved := Array.replicate 37 none
  statics := none }

def pool7 : Array CpInfo := pool [(1, .methodref 2 3), (0, .class_ 4), (0, .nameAndType 5 6), (0, u "java/lang/Object"), (0, u "<init>"), (0, u "()V"), (0, .string 8), (0, u ""), (0, .fieldref 10 11), (0, .class_ 12), (0, .nameAndType 13 14), (0, u "java/lang/String"), (0, u "value"), (0, u "[B"), (0, .fieldref 10 16), (0, .nameAndType 17 18), (0, u "coder"), (0, u "B"), (2, u "hash"), (0, u "I"), (2, u "hashIsZero"), (0, u "Z"), (0, .methodref 10 28), (0, .nameAndType 5 29), (0, u "([CIILjava/lang/Void;)V"), (8, .fieldref 10 39), (0, .nameAndType 40 26), (0, u "COMPACT_STRINGS"), (1, .class_ 44), (1, u "java/lang/StringUTF16"), (0, u "compress"), (1, .methodref 42 48), (0, .nameAndType 49 50), (0, u "coderFromArrayLen"), (0, u "([BI)B"), (2, u "toBytes"), (53, .class_ 109), (1, u "java/lang/StringLatin1"), (67, .methodref 42 178), (0, .nameAndType 45 179), (0, u "([CII)[B"), (29, .methodref 10 210), (0, .nameAndType 5 211), (0, u "([BB)V"), (157, u "(C)Z"), (205, .class_ 576), (0, u "java/lang/CharSequence"), (22, u "CASE_INSENSITIVE_ORDER"), (0, u "Ljava/util/Comparator;"), (181, u "valueOf"), (0, u "(C)Ljava/lang/String;"), (226, u "([C)V"), (4, .methodref 107 1016), (0, .nameAndType 1017 369), (0, u "canEncode"), (0, .methodref 107 1019), (0, .nameAndType 53 1020), (0, u "(C)[B"), (80, u "serialPersistentFields"), (0, u "[Ljava/io/ObjectStreamField;"), (0, .class_ 1104), (0, u "java/lang/String$CaseInsensitiveComparator"), (1, .class_ 1107), (0, u "java/io/Serializable"), (0, .class_ 1109), (0, u "java/lang/Comparable"), (0, .class_ 1111), (0, u "java/lang/constant/Constable"), (0, .class_ 1113), (0, u "java/lang/constant/ConstantDesc"), (2, u "serialVersionUID"), (0, u "J"), (3, u "REPL"), (0, u "C"), (2, u "LATIN1"), (1, u "UTF16")] 323

def k7m0 : Method := { name := "<init>", desc := "()V", sig := { parameters := [], returnType := none }, accessFlags := 1, code := none }
def k7c1 : Code := { maxStack := 5, maxLocals := 2, code := jdk_42_method_3_code, exceptionTable := #[], attributes := #[] }
def k7m1 : Method := { name := "<init>", desc := "([C)V", sig := { parameters := [(.array .char)], returnType := none }, accessFlags := 1, code := some k7c1 }
def k7c2 : Code := { maxStack := 4, maxLocals := 1, code := jdk_42_method_139_code, exceptionTable := #[], attributes := #[] }
def k7m2 : Method := { name := "valueOf", desc := "(C)Ljava/lang/String;", sig := { parameters := [.char], returnType := some (.object "java/lang/String") }, accessFlags := 9, code := some k7c2 }
def k7c3 : Code := { maxStack := 4, maxLocals := 6, code := jdk_42_method_149_code, exceptionTable := #[], attributes := #[] }
def k7m3 : Method := { name := "<init>", desc := "([CIILjava/lang/Void;)V", sig := { parameters := [(.array .char), .int, .int, (.object "java/lang/Void")], returnType := none }, accessFlags := 2, code := some k7c3 }
def k7c4 : Code := { maxStack := 2, maxLocals := 3, code := jdk_42_method_151_code, exceptionTable := #[], attributes := #[] }
def k7m4 : Method := { name := "<init>", desc := "([BB)V", sig := { parameters := [(.array .byte), .byte], returnType := none }, accessFlags := 0, code := some k7c4 }
/-- java/lang/String -/
def k7 : Class := { plain "java/lang/String" (some 0) with
  accessFlags := 49
  interfaces := #[2, 3, 4, 5, 6]
  cf := some (fileOf pool7 10 #[.nestMembers #[1103]] #[{ accessFlags := 1, nameIndex := 5, descriptorIndex := 6, attributes := #[] }, { accessFlags := 1, nameIndex := 5, descriptorIndex := 1010, attributes := #[] }, { accessFlags := 9, nameIndex := 782, descriptorIndex := 783, attributes := #[] }, { accessFlags := 2, nameIndex := 5, descriptorIndex := 29, attributes := #[] }, { accessFlags := 0, nameIndex := 5, descriptorIndex := 211, attributes := #[] }] 49 2 #[1106, 1108, 575, 1110, 1112] #[{ accessFlags := 18, nameIndex := 13, descriptorIndex := 14, attributes := #[] }, { accessFlags := 18, nameIndex := 17, descriptorIndex := 18, attributes := #[] }, { accessFlags := 2, nameIndex := 21, descriptorIndex := 22, attributes := #[] }, { accessFlags := 2, nameIndex := 25, descriptorIndex := 26, attributes := #[] }, { accessFlags := 26, nameIndex := 1116, descriptorIndex := 1117, attributes := #[] }, { accessFlags := 24, nameIndex := 40, descriptorIndex := 26, attributes := #[] }, { accessFlags := 26, nameIndex := 1101, descriptorIndex := 1102, attributes := #[] }, { accessFlags := 26, nameIndex := 1121, descriptorIndex := 1122, attributes := #[] }, { accessFlags := 25, nameIndex := 599, descriptorIndex := 600, attributes := #[] }, { accessFlags := 24, nameIndex := 1125, descriptorIndex := 18, attributes := #[] }, { accessFlags := 24, nameIndex := 1127, descriptorIndex := 18, attributes := #[] }])
  fields := #[{ name := "value", type := (.array .byte), accessFlags := 18, slot := 0, constantValue := 0 }, { name := "coder", type := .byte, accessFlags := 18, slot := 1, constantValue := 0 }, { name := "hash", type := .int, accessFlags := 2, slot := 2, constantValue := 0 }, { name := "hashIsZero", type := .boolean, accessFlags := 2, slot := 3, constantValue := 0 }, { name := "serialVersionUID", type := .long, accessFlags := 26, slot := 0, constantValue := 0 }, { name := "COMPACT_STRINGS", type := .boolean, accessFlags := 24, slot := 1, constantValue := 0 }, { name := "serialPersistentFields", type := (.array (.object "java/io/ObjectStreamField")), accessFlags := 26, slot := 2, constantValue := 0 }, { name := "REPL", type := .char, accessFlags := 26, slot := 3, constantValue := 0 }, { name := "CASE_INSENSITIVE_ORDER", type := (.object "java/util/Comparator"), accessFlags := 25, slot := 4, constantValue := 0 }, { name := "LATIN1", type := .byte, accessFlags := 24, slot := 5, constantValue := 0 }, { name := "UTF16", type := .byte, accessFlags := 24, slot := 6, constantValue := 0 }]
  methods := #[k7m0, k7m1, k7m2, k7m3, k7m4]
  instanceTypes := #[(.array .byte), .byte, .int, .boolean]
  staticTypes := #[.long, .boolean, (.array (.object "java/io/ObjectStreamField")), .char, (.object "java/util/Comparator"), .byte, .byte]
  resolved := Array.replicate 1451 none
  statics := some 0 }

def pool8 : Array CpInfo := pool [(4, .class_ 6), (1, u "java/lang/Object"), (0, u "<init>"), (0, u "()V"), (5, .class_ 16), (1, u "java/lang/StringLatin1"), (73, u "canEncode"), (14, u "(C)Z"), (15, u "$assertionsDisabled"), (0, u "Z"), (98, .class_ 223), (1, u "java/lang/StringLatin1$LinesSpliterator"), (156, u "toBytes"), (1, u "(C)[B"), (7, .class_ 391), (0, u "java/lang/StringLatin1$CharsSpliterator")] 3

def k8m0 : Method := { name := "<init>", desc := "()V", sig := { parameters := [], returnType := none }, accessFlags := 0, code := none }
def k8c1 : Code := { maxStack := 2, maxLocals := 1, code := jdk_43_method_3_code, exceptionTable := #[], attributes := #[] }
def k8m1 : Method := { name := "canEncode", desc := "(C)Z", sig := { parameters := [.char], returnType := some .boolean }, accessFlags := 9, code := some k8c1 }
def k8c2 : Code := { maxStack := 4, maxLocals := 1, code := jdk_43_method_46_code, exceptionTable := #[], attributes := #[] }
def k8m2 : Method := { name := "toBytes", desc := "(C)[B", sig := { parameters := [.char], returnType := some (.array .byte) }, accessFlags := 9, code := some k8c2 }
/-- java/lang/StringLatin1 -/
def k8 : Class := { plain "java/lang/StringLatin1" (some 0) with
  accessFlags := 48
  interfaces := #[]
  cf := some (fileOf pool8 14 #[.nestMembers #[390, 221]] #[{ accessFlags := 0, nameIndex := 7, descriptorIndex := 8, attributes := #[] }, { accessFlags := 9, nameIndex := 90, descriptorIndex := 105, attributes := #[] }, { accessFlags := 9, nameIndex := 380, descriptorIndex := 382, attributes := #[] }] 48 4 #[] #[{ accessFlags := 4120, nameIndex := 121, descriptorIndex := 122, attributes := #[] }])
  fields := #[{ name := "$assertionsDisabled", type := .boolean, accessFlags := 4120, slot := 0, constantValue := 0 }]
  methods := #[k8m0, k8m1, k8m2]
  instanceTypes := #[]
  staticTypes := #[.boolean]
  resolved := Array.replicate 395 none
  statics := none }

def pool9 : Array CpInfo := pool [(6, .class_ 8), (1, u "java/lang/Object"), (0, u "<init>"), (0, u "()V"), (1, .class_ 14), (1, u "java/lang/StringUTF16"), (31, u "$assertionsDisabled"), (0, u "Z"), (13, u "HI_BYTE_SHIFT"), (0, u "I"), (2, u "LO_BYTE_SHIFT"), (49, .methodref 12 116), (0, .nameAndType 117 118), (0, u "compress"), (0, u "([CI[BII)I"), (3, u "([CII)[B"), (138, u "coderFromArrayLen"), (0, u "([BI)B"), (106, .class_ 371), (1, u "java/lang/StringUTF16$LinesSpliterator"), (58, u "MAX_LENGTH"), (196, .class_ 628), (0, u "java/lang/StringUTF16$CodePointsSpliterator"), (0, .class_ 630), (0, u "java/lang/StringUTF16$CharsSpliterator")] 4

def k9m0 : Method := { name := "<init>", desc := "()V", sig := { parameters := [], returnType := none }, accessFlags := 0, code := none }
def k9c1 : Code := { maxStack := 2, maxLocals := 2, code := jdk_52_method_15_code, exceptionTable := #[], attributes := #[] }
def k9m1 : Method := { name := "coderFromArrayLen", desc := "([BI)B", sig := { parameters := [(.array .byte), .int], returnType := some .byte }, accessFlags := 8, code := some k9c1 }
def k9c2 : Code := { maxStack := 5, maxLocals := 6, code := jdk_52_method_16_code, exceptionTable := #[], attributes := #[] }
def k9m2 : Method := { name := "compress", desc := "([CII)[B", sig := { parameters := [(.array .char), .int, .int], returnType := some (.array .byte) }, accessFlags := 9, code := some k9c2 }
def k9c3 : Code := { maxStack := 3, maxLocals := 7, code := jdk_52_method_21_code, exceptionTable := #[], attributes := #[] }
def k9m3 : Method := { name := "compress", desc := "([CI[BII)I", sig := { parameters := [(.array .char), .int, (.array .byte), .int, .int], returnType := some .int }, accessFlags := 9, code := some k9c3 }
/-- java/lang/StringUTF16 -/
def k9 : Class := { plain "java/lang/StringUTF16" (some 0) with
  accessFlags := 48
  interfaces := #[]
  cf := some (fileOf pool9 12 #[.nestMembers #[627, 629, 369]] #[{ accessFlags := 0, nameIndex := 9, descriptorIndex := 10, attributes := #[] }, { accessFlags := 8, nameIndex := 261, descriptorIndex := 262, attributes := #[] }, { accessFlags := 9, nameIndex := 117, descriptorIndex := 122, attributes := #[] }, { accessFlags := 9, nameIndex := 117, descriptorIndex := 118, attributes := #[] }] 48 6 #[] #[{ accessFlags := 26, nameIndex := 61, descriptorIndex := 62, attributes := #[] }, { accessFlags := 26, nameIndex := 65, descriptorIndex := 62, attributes := #[] }, { accessFlags := 24, nameIndex := 430, descriptorIndex := 62, attributes := #[] }, { accessFlags := 4120, nameIndex := 46, descriptorIndex := 47, attributes := #[] }])
  fields := #[{ name := "HI_BYTE_SHIFT", type := .int, accessFlags := 26, slot := 0, constantValue := 0 }, { name := "LO_BYTE_SHIFT", type := .int, accessFlags := 26, slot := 1, constantValue := 0 }, { name := "MAX_LENGTH", type := .int, accessFlags := 24, slot := 2, constantValue := 0 }, { name := "$assertionsDisabled", type := .boolean, accessFlags := 4120, slot := 3, constantValue := 0 }]
  methods := #[k9m0, k9m1, k9m2, k9m3]
  instanceTypes := #[]
  staticTypes := #[.int, .int, .int, .boolean]
  resolved := Array.replicate 635 none
  statics := none }

def pool10 : Array CpInfo := pool [(8, .class_ 10), (1, u "java/lang/Iterable"), (24, .class_ 36), (0, u "java/lang/Object")] 25

/-- java/lang/Iterable -/
def k10 : Class := { plain "java/lang/Iterable" (some 0) with
  accessFlags := 1537
  interfaces := #[]
  cf := some (fileOf pool10 8 #[] #[] 1537 35 #[] #[])
  fields := #[]
  methods := #[]
  instanceTypes := #[]
  staticTypes := #[]
  resolved := Array.replicate 62 none
  statics := none }

def pool11 : Array CpInfo := pool [(10, .class_ 12), (1, u "java/util/Collection"), (0, u "toArray"), (16, u "()Z"), (29, .class_ 61), (0, u "java/lang/Object"), (0, .class_ 63), (0, u "java/lang/Iterable"), (2, u "isEmpty"), (3, u "()[Ljava/lang/Object;")] 44

def k11m0 : Method := { name := "isEmpty", desc := "()Z", sig := { parameters := [], returnType := some .boolean }, accessFlags := 1025, code := none }
def k11m1 : Method := { name := "toArray", desc := "()[Ljava/lang/Object;", sig := { parameters := [], returnType := some (.array (.object "java/lang/Object")) }, accessFlags := 1025, code := none }
/-- java/util/Collection -/
def k11 : Class := { plain "java/util/Collection" (some 0) with
  accessFlags := 1537
  interfaces := #[10]
  cf := some (fileOf pool11 10 #[] #[{ accessFlags := 1025, nameIndex := 66, descriptorIndex := 30, attributes := #[] }, { accessFlags := 1025, nameIndex := 13, descriptorIndex := 70, attributes := #[] }] 1537 60 #[62] #[])
  fields := #[]
  methods := #[k11m0, k11m1]
  instanceTypes := #[]
  staticTypes := #[]
  resolved := Array.replicate 115 none
  statics := none }

def pool12 : Array CpInfo := pool [(1, .methodref 2 3), (0, .class_ 4), (0, .nameAndType 5 6), (0, u "java/lang/Object"), (0, u "<init>"), (0, u "()V"), (1, .class_ 10), (1, u "java/util/AbstractCollection"), (66, .class_ 78), (0, u "java/util/Collection")] 81

def k12c0 : Code := { maxStack := 1, maxLocals := 1, code := jdk_22_method_1_code, exceptionTable := #[], attributes := #[] }
def k12m0 : Method := { name := "<init>", desc := "()V", sig := { parameters := [], returnType := none }, accessFlags := 4, code := some k12c0 }
/-- java/util/AbstractCollection -/
def k12 : Class := { plain "java/util/AbstractCollection" (some 0) with
  accessFlags := 1057
  interfaces := #[11]
  cf := some (fileOf pool12 8 #[] #[{ accessFlags := 4, nameIndex := 5, descriptorIndex := 6, attributes := #[] }] 1057 2 #[77] #[])
  fields := #[]
  methods := #[k12m0]
  instanceTypes := #[]
  staticTypes := #[]
  resolved := Array.replicate 160 none
  statics := none }

def pool13 : Array CpInfo := pool [(8, .class_ 10), (1, u "java/util/SequencedCollection"), (15, .class_ 27), (0, u "java/lang/Object"), (0, .class_ 29), (0, u "java/util/Collection")] 27

/-- java/util/SequencedCollection -/
def k13 : Class := { plain "java/util/SequencedCollection" (some 0) with
  accessFlags := 1537
  interfaces := #[11]
  cf := some (fileOf pool13 8 #[] #[] 1537 26 #[28] #[])
  fields := #[]
  methods := #[]
  instanceTypes := #[]
  staticTypes := #[]
  resolved := Array.replicate 57 none
  statics := none }

def pool14 : Array CpInfo := pool [(8, .class_ 10), (1, u "java/util/List"), (7, u "()Z"), (48, u "isEmpty"), (20, u "of"), (1, .fieldref 91 92), (0, .class_ 93), (0, .nameAndType 94 95), (0, u "java/util/ImmutableCollections"), (0, u "EMPTY_LIST"), (0, u "Ljava/util/ImmutableCollections$ListN;"), (7, .class_ 104), (0, u "java/lang/Object"), (14, u "()Ljava/util/List;"), (0, .class_ 121), (0, u "java/util/SequencedCollection")] 129

def k14m0 : Method := { name := "isEmpty", desc := "()Z", sig := { parameters := [], returnType := some .boolean }, accessFlags := 1025, code := none }
def k14c1 : Code := { maxStack := 1, maxLocals := 0, code := jdk_40_method_36_code, exceptionTable := #[], attributes := #[] }
def k14m1 : Method := { name := "of", desc := "()Ljava/util/List;", sig := { parameters := [], returnType := some (.object "java/util/List") }, accessFlags := 9, code := some k14c1 }
/-- java/util/List -/
def k14 : Class := { plain "java/util/List" (some 0) with
  accessFlags := 1537
  interfaces := #[13]
  cf := some (fileOf pool14 8 #[] #[{ accessFlags := 1025, nameIndex := 67, descriptorIndex := 18, attributes := #[] }, { accessFlags := 9, nameIndex := 88, descriptorIndex := 119, attributes := #[] }] 1537 103 #[120] #[])
  fields := #[]
  methods := #[k14m0, k14m1]
  instanceTypes := #[]
  staticTypes := #[]
  resolved := Array.replicate 251 none
  statics := none }

def pool15 : Array CpInfo := pool [(1, .methodref 2 3), (0, .class_ 4), (0, .nameAndType 5 6), (0, u "java/util/AbstractCollection"), (0, u "<init>"), (0, u "()V"), (0, .fieldref 8 9), (0, .class_ 10), (0, .nameAndType 11 12), (0, u "java/util/AbstractList"), (0, u "modCount"), (0, u "I"), (64, .class_ 78), (0, u "java/util/AbstractList$Itr"), (3, .class_ 83), (0, u "java/util/AbstractList$ListItr"), (9, .class_ 94), (0, u "java/util/AbstractList$RandomAccessSubList"), (3, .class_ 99), (0, u "java/util/AbstractList$SubList"), (33, .class_ 134), (0, u "java/util/List"), (73, .class_ 209), (0, u "java/util/AbstractList$SubList$1"), (0, .class_ 211), (0, u "java/util/AbstractList$RandomAccessSpliterator")] 6

def k15c0 : Code := { maxStack := 2, maxLocals := 1, code := jdk_39_method_1_code, exceptionTable := #[], attributes := #[] }
def k15m0 : Method := { name := "<init>", desc := "()V", sig := { parameters := [], returnType := none }, accessFlags := 4, code := some k15c0 }
/-- java/util/AbstractList -/
def k15 : Class := { plain "java/util/AbstractList" (some 12) with
  accessFlags := 1057
  interfaces := #[14]
  cf := some (fileOf pool15 8 #[.nestMembers #[93, 98, 208, 210, 82, 77]] #[{ accessFlags := 4, nameIndex := 5, descriptorIndex := 6, attributes := #[] }] 1057 2 #[133] #[{ accessFlags := 132, nameIndex := 11, descriptorIndex := 12, attributes := #[] }])
  fields := #[{ name := "modCount", type := .int, accessFlags := 132, slot := 0, constantValue := 0 }]
  methods := #[k15m0]
  instanceTypes := #[.int]
  staticTypes := #[]
  resolved := Array.replicate 218 none
  statics := none }

def pool16 : Array CpInfo := pool [(1, .class_ 2), (0, u "java/util/RandomAccess"), (0, .class_ 4), (0, u "java/lang/Object")] 2

/-- java/util/RandomAccess -/
def k16 : Class := { plain "java/util/RandomAccess" (some 0) with
  accessFlags := 1537
  interfaces := #[]
  cf := some (fileOf pool16 1 #[] #[] 1537 3 #[] #[])
  fields := #[]
  methods := #[]
  instanceTypes := #[]
  staticTypes := #[]
  resolved := Array.replicate 7 none
  statics := none }

def pool17 : Array CpInfo := pool [(1, .class_ 2), (0, u "java/lang/Cloneable"), (0, .class_ 4), (0, u "java/lang/Object")] 2

/-- java/lang/Cloneable -/
def k17 : Class := { plain "java/lang/Cloneable" (some 0) with
  accessFlags := 1537
  interfaces := #[]
  cf := some (fileOf pool17 1 #[] #[] 1537 3 #[] #[])
  fields := #[]
  methods := #[]
  instanceTypes := #[]
  staticTypes := #[]
  resolved := Array.replicate 7 none
  statics := none }

def pool18 : Array CpInfo := pool [(1, .methodref 2 3), (0, .class_ 4), (0, .nameAndType 5 6), (0, u "java/util/AbstractList"), (0, u "<init>"), (0, u "()V"), (0, .class_ 8), (0, u "java/lang/Object"), (0, .fieldref 10 11), (0, .class_ 12), (0, .nameAndType 13 14), (0, u "java/util/ArrayList"), (0, u "elementData"), (0, u "[Ljava/lang/Object;"), (2, u "EMPTY_ELEMENTDATA"), (21, .fieldref 10 40), (0, .nameAndType 41 14), (0, u "DEFAULTCAPACITY_EMPTY_ELEMENTDATA"), (0, .interfaceMethodref 43 44), (0, .class_ 45), (0, .nameAndType 46 47), (0, u "java/util/Collection"), (0, u "toArray"), (0, u "()[Ljava/lang/Object;"), (0, .fieldref 10 49), (0, .nameAndType 50 51), (0, u "size"), (0, u "I"), (0, .interfaceMethodref 43 53), (0, .nameAndType 54 55), (0, u "getClass"), (0, u "()Ljava/lang/Class;"), (2, .class_ 60), (1, u "java/util/Arrays"), (0, u "copyOf"), (1, .fieldref 10 64), (0, .nameAndType 65 51), (0, u "modCount"), (0, .methodref 58 67), (0, .nameAndType 61 68), (0, u "([Ljava/lang/Object;I)[Ljava/lang/Object;"), (0, .methodref 10 70), (0, .nameAndType 71 72), (0, u "grow"), (0, u "(I)[Ljava/lang/Object;"), (6, .methodref 80 81), (0, .class_ 82), (0, .nameAndType 83 84), (0, u "java/lang/Math"), (0, u "max"), (0, u "(II)I"), (11, u "(Ljava/lang/Object;)Z"), (32, .methodref 10 130), (0, .nameAndType 71 47), (0, .methodref 10 132), (0, .nameAndType 133 134), (0, u "add"), (0, u "(Ljava/lang/Object;[Ljava/lang/Object;I)V"), (13, .class_ 149), (0, u "java/util/List"), (23, u "()Z"), (88, .class_ 263), (0, u "java/util/ArrayList$ListItr"), (3, .class_ 268), (0, u "java/util/ArrayList$Itr"), (7, .class_ 277), (0, u "java/util/ArrayList$SubList"), (12, .class_ 291), (0, u "java/util/ArrayList$ArrayListSpliterator"), (37, .class_ 330), (0, u "java/util/RandomAccess"), (0, .class_ 332), (0, u "java/lang/Cloneable"), (0, .class_ 334), (0, u "java/io/Serializable"), (0, u "serialVersionUID"), (0, u "J"), (3, u "DEFAULT_CAPACITY"), (10, u "(Ljava/util/Collection;)V"), (11, u "isEmpty"), (136, .class_ 501), (0, u "java/util/ArrayList$SubList$2"), (0, .class_ 503), (0, u "java/util/ArrayList$SubList$1")] 5

def k18c0 : Code := { maxStack := 2, maxLocals := 1, code := jdk_38_method_2_code, exceptionTable := #[], attributes := #[] }
def k18m0 : Method := { name := "<init>", desc := "()V", sig := { parameters := [], returnType := none }, accessFlags := 1, code := some k18c0 }
def k18c1 : Code := { maxStack := 4, maxLocals := 3, code := jdk_38_method_3_code, exceptionTable := #[], attributes := #[] }
def k18m1 : Method := { name := "<init>", desc := "(Ljava/util/Collection;)V", sig := { parameters := [(.object "java/util/Collection")], returnType := none }, accessFlags := 1, code := some k18c1 }
def k18c2 : Code := { maxStack := 4, maxLocals := 4, code := jdk_38_method_6_code, exceptionTable := #[], attributes := #[] }
def k18m2 : Method := { name := "grow", desc := "(I)[Ljava/lang/Object;", sig := { parameters := [.int], returnType := some (.array (.object "java/lang/Object")) }, accessFlags := 2, code := some k18c2 }
def k18c3 : Code := { maxStack := 3, maxLocals := 1, code := jdk_38_method_7_code, exceptionTable := #[], attributes := #[] }
def k18m3 : Method := { name := "grow", desc := "()[Ljava/lang/Object;", sig := { parameters := [], returnType := some (.array (.object "java/lang/Object")) }, accessFlags := 2, code := some k18c3 }
def k18c4 : Code := { maxStack := 1, maxLocals := 1, code := jdk_38_method_9_code, exceptionTable := #[], attributes := #[] }
def k18m4 : Method := { name := "isEmpty", desc := "()Z", sig := { parameters := [], returnType := some .boolean }, accessFlags := 1, code := some k18c4 }
def k18c5 : Code := { maxStack := 2, maxLocals := 1, code := jdk_38_method_16_code, exceptionTable := #[], attributes := #[] }
def k18m5 : Method := { name := "toArray", desc := "()[Ljava/lang/Object;", sig := { parameters := [], returnType := some (.array (.object "java/lang/Object")) }, accessFlags := 1, code := some k18c5 }
def k18c6 : Code := { maxStack := 3, maxLocals := 4, code := jdk_38_method_24_code, exceptionTable := #[], attributes := #[] }
def k18m6 : Method := { name := "add", desc := "(Ljava/lang/Object;[Ljava/lang/Object;I)V", sig := { parameters := [(.object "java/lang/Object"), (.array (.object "java/lang/Object")), .int], returnType := none }, accessFlags := 2, code := some k18c6 }
def k18c7 : Code := { maxStack := 4, maxLocals := 2, code := jdk_38_method_25_code, exceptionTable := #[], attributes := #[] }
def k18m7 : Method := { name := "add", desc := "(Ljava/lang/Object;)Z", sig := { parameters := [(.object "java/lang/Object")], returnType := some .boolean }, accessFlags := 1, code := some k18c7 }
/-- java/util/ArrayList -/
def k18 : Class := { plain "java/util/ArrayList" (some 15) with
  accessFlags := 33
  interfaces := #[14, 16, 17, 2]
  cf := some (fileOf pool18 10 #[.nestMembers #[290, 276, 500, 502, 262, 267]] #[{ accessFlags := 1, nameIndex := 5, descriptorIndex := 6, attributes := #[] }, { accessFlags := 1, nameIndex := 5, descriptorIndex := 351, attributes := #[] }, { accessFlags := 2, nameIndex := 71, descriptorIndex := 72, attributes := #[] }, { accessFlags := 2, nameIndex := 71, descriptorIndex := 47, attributes := #[] }, { accessFlags := 1, nameIndex := 363, descriptorIndex := 173, attributes := #[] }, { accessFlags := 1, nameIndex := 46, descriptorIndex := 47, attributes := #[] }, { accessFlags := 2, nameIndex := 133, descriptorIndex := 134, attributes := #[] }, { accessFlags := 1, nameIndex := 133, descriptorIndex := 96, attributes := #[] }] 33 2 #[148, 329, 331, 333] #[{ accessFlags := 26, nameIndex := 335, descriptorIndex := 336, attributes := #[] }, { accessFlags := 26, nameIndex := 340, descriptorIndex := 51, attributes := #[] }, { accessFlags := 26, nameIndex := 17, descriptorIndex := 14, attributes := #[] }, { accessFlags := 26, nameIndex := 41, descriptorIndex := 14, attributes := #[] }, { accessFlags := 128, nameIndex := 13, descriptorIndex := 14, attributes := #[] }, { accessFlags := 2, nameIndex := 50, descriptorIndex := 51, attributes := #[] }])
  fields := #[{ name := "serialVersionUID", type := .long, accessFlags := 26, slot := 0, constantValue := 0 }, { name := "DEFAULT_CAPACITY", type := .int, accessFlags := 26, slot := 1, constantValue := 0 }, { name := "EMPTY_ELEMENTDATA", type := (.array (.object "java/lang/Object")), accessFlags := 26, slot := 2, constantValue := 0 }, { name := "DEFAULTCAPACITY_EMPTY_ELEMENTDATA", type := (.array (.object "java/lang/Object")), accessFlags := 26, slot := 3, constantValue := 0 }, { name := "elementData", type := (.array (.object "java/lang/Object")), accessFlags := 128, slot := 1, constantValue := 0 }, { name := "size", type := .int, accessFlags := 2, slot := 2, constantValue := 0 }]
  methods := #[k18m0, k18m1, k18m2, k18m3, k18m4, k18m5, k18m6, k18m7]
  instanceTypes := #[.int, (.array (.object "java/lang/Object")), .int]
  staticTypes := #[.long, .int, (.array (.object "java/lang/Object")), (.array (.object "java/lang/Object"))]
  resolved := Array.replicate 509 none
  mirror := some 5
  statics := some 1 }

def pool19 : Array CpInfo := pool [(1, .methodref 2 3), (0, .class_ 4), (0, .nameAndType 5 6), (0, u "java/lang/Object"), (0, u "<init>"), (0, u "()V"), (0, .class_ 8), (0, u "java/lang/Record")] 13

def k19c0 : Code := { maxStack := 1, maxLocals := 1, code := jdk_30_method_1_code, exceptionTable := #[], attributes := #[] }
def k19m0 : Method := { name := "<init>", desc := "()V", sig := { parameters := [], returnType := none }, accessFlags := 4, code := some k19c0 }
/-- java/lang/Record -/
def k19 : Class := { plain "java/lang/Record" (some 0) with
  accessFlags := 1057
  interfaces := #[]
  cf := some (fileOf pool19 7 #[] #[{ accessFlags := 4, nameIndex := 5, descriptorIndex := 6, attributes := #[] }] 1057 2 #[] #[])
  fields := #[]
  methods := #[k19m0]
  instanceTypes := #[]
  staticTypes := #[]
  resolved := Array.replicate 22 none
  statics := none }

def pool20 : Array CpInfo := pool [(1, .class_ 2), (0, u "com/example/treegraft/treegraft/brackets/Element"), (0, .class_ 4), (0, u "java/lang/Object")] 9

/-- com/example/treegraft/treegraft/brackets/Element -/
def k20 : Class := { plain "com/example/treegraft/treegraft/brackets/Element" (some 0) with
  accessFlags := 1537
  interfaces := #[]
  cf := some (fileOf pool20 1 #[] #[] 1537 3 #[] #[])
  fields := #[]
  methods := #[]
  instanceTypes := #[]
  staticTypes := #[]
  resolved := Array.replicate 14 none
  statics := none }

def pool21 : Array CpInfo := pool [(1, .methodref 2 3), (0, .class_ 4), (0, .nameAndType 5 6), (0, u "java/lang/Record"), (0, u "<init>"), (0, u "()V"), (0, .fieldref 8 9), (0, .class_ 10), (0, .nameAndType 11 12), (0, u "com/example/treegraft/treegraft/brackets/Atom"), (0, u "text"), (0, u "Ljava/lang/String;"), (0, .fieldref 8 14), (0, .nameAndType 15 16), (0, u "line"), (0, u "I"), (18, .class_ 36), (0, u "com/example/treegraft/treegraft/brackets/Element"), (0, u "(Ljava/lang/String;I)V")] 29

def k21c0 : Code := { maxStack := 2, maxLocals := 3, code := prog_5_method_1_code, exceptionTable := #[], attributes := #[] }
def k21m0 : Method := { name := "<init>", desc := "(Ljava/lang/String;I)V", sig := { parameters := [(.object "java/lang/String"), .int], returnType := none }, accessFlags := 1, code := some k21c0 }
/-- com/example/treegraft/treegraft/brackets/Atom -/
def k21 : Class := { plain "com/example/treegraft/treegraft/brackets/Atom" (some 19) with
  accessFlags := 49
  interfaces := #[20]
  cf := some (fileOf pool21 8 #[] #[{ accessFlags := 1, nameIndex := 5, descriptorIndex := 37, attributes := #[] }] 49 2 #[35] #[{ accessFlags := 18, nameIndex := 11, descriptorIndex := 12, attributes := #[] }, { accessFlags := 18, nameIndex := 15, descriptorIndex := 16, attributes := #[] }])
  fields := #[{ name := "text", type := (.object "java/lang/String"), accessFlags := 18, slot := 0, constantValue := 0 }, { name := "line", type := .int, accessFlags := 18, slot := 1, constantValue := 0 }]
  methods := #[k21m0]
  instanceTypes := #[(.object "java/lang/String"), .int]
  staticTypes := #[]
  resolved := Array.replicate 67 none
  statics := none }

def pool22 : Array CpInfo := pool [(1, .class_ 2), (0, u "java/lang/Math"), (1, .class_ 6), (1, u "java/lang/Object"), (0, u "<init>"), (0, u "()V"), (89, .class_ 100), (1, u "java/lang/Math$RandomNumberGeneratorHolder"), (71, u "negativeZeroFloatBits"), (0, u "J"), (2, u "negativeZeroDoubleBits"), (21, u "max"), (2, u "min"), (43, u "$assertionsDisabled"), (0, u "Z"), (88, u "(II)I"), (2, u "twoToTheDoubleScaleDown"), (0, u "D"), (4, u "twoToTheDoubleScaleUp"), (9, u "E"), (3, u "PI"), (2, u "TAU"), (2, u "DEGREES_TO_RADIANS"), (0, u "RADIANS_TO_DEGREES")] 94

def k22m0 : Method := { name := "<init>", desc := "()V", sig := { parameters := [], returnType := none }, accessFlags := 2, code := none }
def k22c1 : Code := { maxStack := 2, maxLocals := 2, code := jdk_29_method_65_code, exceptionTable := #[], attributes := #[] }
def k22m1 : Method := { name := "max", desc := "(II)I", sig := { parameters := [.int, .int], returnType := some .int }, accessFlags := 9, code := some k22c1 }
def k22c2 : Code := { maxStack := 2, maxLocals := 2, code := jdk_29_method_69_code, exceptionTable := #[], attributes := #[] }
def k22m2 : Method := { name := "min", desc := "(II)I", sig := { parameters := [.int, .int], returnType := some .int }, accessFlags := 9, code := some k22c2 }
/-- java/lang/Math -/
def k22 : Class := { plain "java/lang/Math" (some 0) with
  accessFlags := 49
  interfaces := #[]
  cf := some (fileOf pool22 1 #[.nestMembers #[98]] #[{ accessFlags := 2, nameIndex := 7, descriptorIndex := 8, attributes := #[] }, { accessFlags := 9, nameIndex := 198, descriptorIndex := 335, attributes := #[] }, { accessFlags := 9, nameIndex := 201, descriptorIndex := 335, attributes := #[] }] 49 4 #[] #[{ accessFlags := 25, nameIndex := 354, descriptorIndex := 339, attributes := #[] }, { accessFlags := 25, nameIndex := 358, descriptorIndex := 339, attributes := #[] }, { accessFlags := 25, nameIndex := 361, descriptorIndex := 339, attributes := #[] }, { accessFlags := 26, nameIndex := 364, descriptorIndex := 339, attributes := #[] }, { accessFlags := 26, nameIndex := 365, descriptorIndex := 339, attributes := #[] }, { accessFlags := 26, nameIndex := 172, descriptorIndex := 173, attributes := #[] }, { accessFlags := 26, nameIndex := 176, descriptorIndex := 173, attributes := #[] }, { accessFlags := 8, nameIndex := 344, descriptorIndex := 339, attributes := #[] }, { accessFlags := 8, nameIndex := 338, descriptorIndex := 339, attributes := #[] }, { accessFlags := 4120, nameIndex := 245, descriptorIndex := 246, attributes := #[] }])
  fields := #[{ name := "E", type := .double, accessFlags := 25, slot := 0, constantValue := 0 }, { name := "PI", type := .double, accessFlags := 25, slot := 1, constantValue := 0 }, { name := "TAU", type := .double, accessFlags := 25, slot := 2, constantValue := 0 }, { name := "DEGREES_TO_RADIANS", type := .double, accessFlags := 26, slot := 3, constantValue := 0 }, { name := "RADIANS_TO_DEGREES", type := .double, accessFlags := 26, slot := 4, constantValue := 0 }, { name := "negativeZeroFloatBits", type := .long, accessFlags := 26, slot := 5, constantValue := 0 }, { name := "negativeZeroDoubleBits", type := .long, accessFlags := 26, slot := 6, constantValue := 0 }, { name := "twoToTheDoubleScaleUp", type := .double, accessFlags := 8, slot := 7, constantValue := 0 }, { name := "twoToTheDoubleScaleDown", type := .double, accessFlags := 8, slot := 8, constantValue := 0 }, { name := "$assertionsDisabled", type := .boolean, accessFlags := 4120, slot := 9, constantValue := 0 }]
  methods := #[k22m0, k22m1, k22m2]
  instanceTypes := #[]
  staticTypes := #[.double, .double, .double, .double, .double, .long, .long, .double, .double, .boolean]
  resolved := Array.replicate 460 none
  statics := none }

def pool23 : Array CpInfo := pool [(1, .methodref 2 3), (0, .class_ 4), (0, .nameAndType 5 6), (0, u "java/lang/Record"), (0, u "<init>"), (0, u "()V"), (0, .interfaceMethodref 8 9), (0, .class_ 10), (0, .nameAndType 11 12), (0, u "java/util/List"), (0, u "isEmpty"), (0, u "()Z"), (0, .interfaceMethodref 8 14), (0, .nameAndType 15 16), (0, u "of"), (0, u "()Ljava/util/List;"), (0, .class_ 18), (0, u "java/util/ArrayList"), (0, .methodref 17 20), (0, .nameAndType 5 21), (0, u "(Ljava/util/Collection;)V"), (0, .methodref 23 24), (0, .class_ 25), (0, .nameAndType 26 27), (0, u "java/util/Collections"), (0, u "unmodifiableList"), (0, u "(Ljava/util/List;)Ljava/util/List;"), (9, .fieldref 38 39), (0, .class_ 40), (0, .nameAndType 41 42), (0, u "com/example/treegraft/treegraft/brackets/Bracket"), (0, u "label"), (0, u "Ljava/lang/String;"), (0, .fieldref 38 44), (0, .nameAndType 45 42), (0, u "word"), (0, .fieldref 38 47), (0, .nameAndType 48 49), (0, u "children"), (0, u "Ljava/util/List;"), (0, .fieldref 38 51), (0, .nameAndType 52 53), (0, u "line"), (0, u "I"), (2, u "(Ljava/lang/String;Ljava/lang/String;Ljava/util/List;I)V"), (16, u "()Ljava/lang/String;"), (10, u "()I"), (4, .class_ 90), (0, u "com/example/treegraft/treegraft/brackets/Element"), (14, u "NOTATION_CAPACITY"), (13, u "isWord")] 34

def k23c0 : Code := { maxStack := 3, maxLocals := 5, code := prog_6_method_1_code, exceptionTable := #[], attributes := #[] }
def k23m0 : Method := { name := "<init>", desc := "(Ljava/lang/String;Ljava/lang/String;Ljava/util/List;I)V", sig := { parameters := [(.object "java/lang/String"), (.object "java/lang/String"), (.object "java/util/List"), .int], returnType := none }, accessFlags := 1, code := some k23c0 }
def k23c1 : Code := { maxStack := 1, maxLocals := 1, code := prog_6_method_4_code, exceptionTable := #[], attributes := #[] }
def k23m1 : Method := { name := "isWord", desc := "()Z", sig := { parameters := [], returnType := some .boolean }, accessFlags := 1, code := some k23c1 }
def k23c2 : Code := { maxStack := 1, maxLocals := 1, code := prog_6_method_11_code, exceptionTable := #[], attributes := #[] }
def k23m2 : Method := { name := "word", desc := "()Ljava/lang/String;", sig := { parameters := [], returnType := some (.object "java/lang/String") }, accessFlags := 1, code := some k23c2 }
def k23c3 : Code := { maxStack := 1, maxLocals := 1, code := prog_6_method_12_code, exceptionTable := #[], attributes := #[] }
def k23m3 : Method := { name := "children", desc := "()Ljava/util/List;", sig := { parameters := [], returnType := some (.object "java/util/List") }, accessFlags := 1, code := some k23c3 }
def k23c4 : Code := { maxStack := 1, maxLocals := 1, code := prog_6_method_13_code, exceptionTable := #[], attributes := #[] }
def k23m4 : Method := { name := "line", desc := "()I", sig := { parameters := [], returnType := some .int }, accessFlags := 1, code := some k23c4 }
/-- com/example/treegraft/treegraft/brackets/Bracket -/
def k23 : Class := { plain "com/example/treegraft/treegraft/brackets/Bracket" (some 19) with
  accessFlags := 49
  interfaces := #[20]
  cf := some (fileOf pool23 38 #[] #[{ accessFlags := 1, nameIndex := 5, descriptorIndex := 56, attributes := #[] }, { accessFlags := 1, nameIndex := 119, descriptorIndex := 12, attributes := #[] }, { accessFlags := 1, nameIndex := 45, descriptorIndex := 73, attributes := #[] }, { accessFlags := 1, nameIndex := 48, descriptorIndex := 16, attributes := #[] }, { accessFlags := 1, nameIndex := 52, descriptorIndex := 84, attributes := #[] }] 49 2 #[89] #[{ accessFlags := 18, nameIndex := 41, descriptorIndex := 42, attributes := #[] }, { accessFlags := 18, nameIndex := 45, descriptorIndex := 42, attributes := #[] }, { accessFlags := 18, nameIndex := 48, descriptorIndex := 49, attributes := #[] }, { accessFlags := 18, nameIndex := 52, descriptorIndex := 53, attributes := #[] }, { accessFlags := 26, nameIndex := 105, descriptorIndex := 53, attributes := #[] }])
  fields := #[{ name := "label", type := (.object "java/lang/String"), accessFlags := 18, slot := 0, constantValue := 0 }, { name := "word", type := (.object "java/lang/String"), accessFlags := 18, slot := 1, constantValue := 0 }, { name := "children", type := (.object "java/util/List"), accessFlags := 18, slot := 2, constantValue := 0 }, { name := "line", type := .int, accessFlags := 18, slot := 3, constantValue := 0 }, { name := "NOTATION_CAPACITY", type := .int, accessFlags := 26, slot := 0, constantValue := 0 }]
  methods := #[k23m0, k23m1, k23m2, k23m3, k23m4]
  instanceTypes := #[(.object "java/lang/String"), (.object "java/lang/String"), (.object "java/util/List"), .int]
  staticTypes := #[.int]
  resolved := Array.replicate 154 none
  statics := none }

def pool24 : Array CpInfo := pool [(2, .class_ 4), (1, u "java/lang/Object"), (0, u "<init>"), (0, u "()V"), (7, .class_ 16), (1, u "java/util/Arrays"), (57, .class_ 76), (1, u "java/util/Arrays$NaturalOrder"), (9, .methodref 2 87), (0, .nameAndType 88 89), (0, u "getClass"), (0, u "()Ljava/lang/Class;"), (20, .class_ 111), (0, u "[Ljava/lang/Object;"), (1, .class_ 115), (1, u "java/util/Arrays$LegacyMergeSort"), (1, u "Z"), (32, .methodref 151 152), (0, .class_ 153), (0, .nameAndType 154 155), (0, u "java/lang/System"), (0, u "arraycopy"), (0, u "(Ljava/lang/Object;ILjava/lang/Object;II)V"), (144, .methodref 14 301), (0, .nameAndType 302 303), (0, u "copyOf"), (0, u "([Ljava/lang/Object;ILjava/lang/Class;)[Ljava/lang/Object;"), (0, .methodref 305 306), (0, .class_ 307), (0, .nameAndType 308 309), (0, u "java/lang/Math"), (0, u "min"), (0, u "(II)I"), (65, .class_ 376), (0, u "java/util/Arrays$ArrayList"), (68, u "$assertionsDisabled"), (269, u "MIN_ARRAY_SORT_GRAN"), (0, u "I"), (2, u "INSERTIONSORT_THRESHOLD"), (140, u "([Ljava/lang/Object;I)[Ljava/lang/Object;"), (114, .class_ 976), (0, u "java/util/Arrays$ArrayItr")] 52

def k24m0 : Method := { name := "<init>", desc := "()V", sig := { parameters := [], returnType := none }, accessFlags := 2, code := none }
def k24c1 : Code := { maxStack := 3, maxLocals := 2, code := jdk_65_method_119_code, exceptionTable := #[], attributes := #[] }
def k24m1 : Method := { name := "copyOf", desc := "([Ljava/lang/Object;I)[Ljava/lang/Object;", sig := { parameters := [(.array (.object "java/lang/Object")), .int], returnType := some (.array (.object "java/lang/Object")) }, accessFlags := 9, code := some k24c1 }
def k24c2 : Code := { maxStack := 6, maxLocals := 4, code := jdk_65_method_120_code, exceptionTable := #[], attributes := #[] }
def k24m2 : Method := { name := "copyOf", desc := "([Ljava/lang/Object;ILjava/lang/Class;)[Ljava/lang/Object;", sig := { parameters := [(.array (.object "java/lang/Object")), .int, (.object "java/lang/Class")], returnType := some (.array (.object "java/lang/Object")) }, accessFlags := 9, code := some k24c2 }
/-- java/util/Arrays -/
def k24 : Class := { plain "java/util/Arrays" (some 0) with
  accessFlags := 49
  interfaces := #[]
  cf := some (fileOf pool24 14 #[.nestMembers #[975, 375, 113, 74]] #[{ accessFlags := 2, nameIndex := 5, descriptorIndex := 6, attributes := #[] }, { accessFlags := 9, nameIndex := 302, descriptorIndex := 860, attributes := #[] }, { accessFlags := 9, nameIndex := 302, descriptorIndex := 303, attributes := #[] }] 49 2 #[] #[{ accessFlags := 26, nameIndex := 715, descriptorIndex := 716, attributes := #[] }, { accessFlags := 26, nameIndex := 719, descriptorIndex := 716, attributes := #[] }, { accessFlags := 4120, nameIndex := 445, descriptorIndex := 117, attributes := #[] }])
  fields := #[{ name := "MIN_ARRAY_SORT_GRAN", type := .int, accessFlags := 26, slot := 0, constantValue := 0 }, { name := "INSERTIONSORT_THRESHOLD", type := .int, accessFlags := 26, slot := 1, constantValue := 0 }, { name := "$assertionsDisabled", type := .boolean, accessFlags := 4120, slot := 2, constantValue := 0 }]
  methods := #[k24m0, k24m1, k24m2]
  instanceTypes := #[]
  staticTypes := #[.int, .int, .boolean]
  resolved := Array.replicate 1029 none
  statics := none }

def pool25 : Array CpInfo := pool [(2, .class_ 4), (1, u "java/lang/Object"), (0, u "<init>"), (0, u "()V"), (1, .class_ 10), (1, u "java/lang/System"), (0, u "allowSecurityManager"), (0, u "I"), (16, u "cons"), (0, u "Ljava/io/Console;"), (77, .class_ 110), (1, u "java/lang/System$CallersHolder"), (43, u "initialErrStream"), (0, u "Ljava/io/PrintStream;"), (19, u "security"), (0, u "Ljava/lang/SecurityManager;"), (31, .class_ 209), (0, u "java/lang/System$1"), (7, u "props"), (0, u "Ljava/util/Properties;"), (2, u "lineSeparator"), (0, u "Ljava/lang/String;"), (96, .class_ 321), (1, u "java/lang/System$LoggerFinder"), (5, .class_ 328), (0, u "java/lang/System$Logger"), (67, u "err"), (2, u "out"), (91, u "notSupportedJnuEncoding"), (15, u "in"), (17, u "initialIn"), (0, u "Ljava/io/InputStream;"), (35, u "bootLayer"), (0, u "Ljava/lang/ModuleLayer;"), (99, .class_ 664), (0, u "java/lang/System$2"), (9, u "NEVER"), (2, u "MAYBE"), (49, u "arraycopy"), (0, u "(Ljava/lang/Object;ILjava/lang/Object;II)V"), (72, .class_ 802), (0, u "java/lang/System$Logger$Level")] 31

def k25m0 : Method := { name := "<init>", desc := "()V", sig := { parameters := [], returnType := none }, accessFlags := 2, code := none }
def k25m1 : Method := { name := "arraycopy", desc := "(Ljava/lang/Object;ILjava/lang/Object;II)V", sig := { parameters := [(.object "java/lang/Object"), .int, (.object "java/lang/Object"), .int, .int], returnType := none }, accessFlags := 265, code := none }
/-- java/lang/System -/
def k25 : Class := { plain "java/lang/System" (some 0) with
  accessFlags := 49
  interfaces := #[]
  cf := some (fileOf pool25 8 #[.nestMembers #[319, 327, 801, 108, 663, 208]] #[{ accessFlags := 2, nameIndex := 5, descriptorIndex := 6, attributes := #[] }, { accessFlags := 265, nameIndex := 727, descriptorIndex := 728, attributes := #[] }] 49 2 #[] #[{ accessFlags := 25, nameIndex := 507, descriptorIndex := 526, attributes := #[] }, { accessFlags := 25, nameIndex := 399, descriptorIndex := 155, attributes := #[] }, { accessFlags := 25, nameIndex := 396, descriptorIndex := 155, attributes := #[] }, { accessFlags := 10, nameIndex := 525, descriptorIndex := 526, attributes := #[] }, { accessFlags := 26, nameIndex := 674, descriptorIndex := 12, attributes := #[] }, { accessFlags := 26, nameIndex := 677, descriptorIndex := 12, attributes := #[] }, { accessFlags := 10, nameIndex := 11, descriptorIndex := 12, attributes := #[] }, { accessFlags := 74, nameIndex := 175, descriptorIndex := 176, attributes := #[] }, { accessFlags := 10, nameIndex := 491, descriptorIndex := 222, attributes := #[] }, { accessFlags := 74, nameIndex := 29, descriptorIndex := 30, attributes := #[] }, { accessFlags := 74, nameIndex := 154, descriptorIndex := 155, attributes := #[] }, { accessFlags := 10, nameIndex := 217, descriptorIndex := 218, attributes := #[] }, { accessFlags := 10, nameIndex := 221, descriptorIndex := 222, attributes := #[] }, { accessFlags := 8, nameIndex := 562, descriptorIndex := 563, attributes := #[] }])
  fields := #[{ name := "in", type := (.object "java/io/InputStream"), accessFlags := 25, slot := 0, constantValue := 0 }, { name := "out", type := (.object "java/io/PrintStream"), accessFlags := 25, slot := 1, constantValue := 0 }, { name := "err", type := (.object "java/io/PrintStream"), accessFlags := 25, slot := 2, constantValue := 0 }, { name := "initialIn", type := (.object "java/io/InputStream"), accessFlags := 10, slot := 3, constantValue := 0 }, { name := "NEVER", type := .int, accessFlags := 26, slot := 4, constantValue := 0 }, { name := "MAYBE", type := .int, accessFlags := 26, slot := 5, constantValue := 0 }, { name := "allowSecurityManager", type := .int, accessFlags := 10, slot := 6, constantValue := 0 }, { name := "security", type := (.object "java/lang/SecurityManager"), accessFlags := 74, slot := 7, constantValue := 0 }, { name := "notSupportedJnuEncoding", type := (.object "java/lang/String"), accessFlags := 10, slot := 8, constantValue := 0 }, { name := "cons", type := (.object "java/io/Console"), accessFlags := 74, slot := 9, constantValue := 0 }, { name := "initialErrStream", type := (.object "java/io/PrintStream"), accessFlags := 74, slot := 10, constantValue := 0 }, { name := "props", type := (.object "java/util/Properties"), accessFlags := 10, slot := 11, constantValue := 0 }, { name := "lineSeparator", type := (.object "java/lang/String"), accessFlags := 10, slot := 12, constantValue := 0 }, { name := "bootLayer", type := (.object "java/lang/ModuleLayer"), accessFlags := 8, slot := 13, constantValue := 0 }]
  methods := #[k25m0, k25m1]
  instanceTypes := #[]
  staticTypes := #[(.object "java/io/InputStream"), (.object "java/io/PrintStream"), (.object "java/io/PrintStream"), (.object "java/io/InputStream"), .int, .int, .int, (.object "java/lang/SecurityManager"), (.object "java/lang/String"), (.object "java/io/Console"), (.object "java/io/PrintStream"), (.object "java/util/Properties"), (.object "java/lang/String"), (.object "java/lang/ModuleLayer")]
  resolved := Array.replicate 834 none
  statics := none }

def pool26 : Array CpInfo := pool [(2, .class_ 4), (1, u "java/lang/Object"), (0, u "<init>"), (0, u "()V"), (1, .class_ 10), (1, u "java/util/List"), (2, .class_ 14), (0, u "java/util/RandomAccess"), (4, .class_ 20), (0, u "java/util/Collections"), (63, u "r"), (0, u "Ljava/util/Random;"), (67, u "(Ljava/util/List;)V"), (9, .nameAndType 164 165), (0, u "getClass"), (0, u "()Ljava/lang/Class;"), (0, .class_ 167), (0, u "java/util/Collections$UnmodifiableCollection"), (6, .class_ 175), (0, u "java/util/Collections$UnmodifiableSequencedCollection"), (6, .class_ 183), (0, u "java/util/Collections$UnmodifiableSet"), (6, .class_ 191), (0, u "java/util/Collections$UnmodifiableSequencedSet"), (6, .class_ 199), (0, u "java/util/Collections$UnmodifiableSortedSet"), (6, .class_ 207), (0, u "java/util/Collections$UnmodifiableNavigableSet"), (3, .interfaceMethodref 8 163), (0, .class_ 213), (0, u "java/util/Collections$UnmodifiableList"), (0, .interfaceMethodref 8 163), (0, .class_ 216), (0, u "java/util/Collections$UnmodifiableRandomAccessList"), (0, .methodref 215 218), (0, .nameAndType 5 153), (4, .class_ 224), (0, u "java/util/Collections$UnmodifiableMap"), (6, .class_ 232), (0, u "java/util/Collections$UnmodifiableSequencedMap"), (4, .class_ 238), (0, u "java/util/Collections$UnmodifiableSortedMap"), (6, .class_ 246), (0, u "java/util/Collections$UnmodifiableNavigableMap"), (3, .class_ 251), (0, u "java/util/Collections$SynchronizedCollection"), (4, .class_ 257), (0, u "java/util/Collections$SynchronizedSet"), (4, .class_ 263), (0, u "java/util/Collections$SynchronizedSortedSet"), (1, .class_ 266), (0, u "java/util/Collections$SynchronizedNavigableSet"), (1, .class_ 269), (0, u "java/util/Collections$SynchronizedRandomAccessList"), (1, .class_ 272), (0, u "java/util/Collections$SynchronizedList"), (5, .class_ 279), (0, u "java/util/Collections$SynchronizedMap"), (1, .class_ 282), (0, u "java/util/Collections$SynchronizedSortedMap"), (1, .class_ 285), (0, u "java/util/Collections$SynchronizedNavigableMap"), (1, .class_ 288), (0, u "java/util/Collections$CheckedCollection"), (11, .class_ 301), (0, u "java/util/Collections$CheckedQueue"), (3, .class_ 306), (0, u "java/util/Collections$CheckedSet"), (3, .class_ 311), (0, u "java/util/Collections$CheckedSortedSet"), (3, .class_ 316), (0, u "java/util/Collections$CheckedNavigableSet"), (3, .class_ 321), (0, u "java/util/Collections$CheckedRandomAccessList"), (3, .class_ 326), (0, u "java/util/Collections$CheckedList"), (1, .class_ 329), (0, u "java/util/Collections$CheckedMap"), (3, .class_ 334), (0, u "java/util/Collections$CheckedSortedMap"), (3, .class_ 339), (0, u "java/util/Collections$CheckedNavigableMap"), (4, .class_ 346), (1, u "java/util/Collections$EmptyIterator"), (3, .class_ 352), (1, u "java/util/Collections$EmptyListIterator"), (2, .class_ 357), (1, u "java/util/Collections$EmptyEnumeration"), (4, u "EMPTY_SET"), (0, u "Ljava/util/Set;"), (6, u "EMPTY_LIST"), (0, u "Ljava/util/List;"), (2, u "EMPTY_MAP"), (0, u "Ljava/util/Map;"), (4, .class_ 381), (0, u "java/util/Collections$SingletonSet"), (2, .class_ 385), (0, u "java/util/Collections$1"), (1, .class_ 388), (0, u "java/util/Collections$2"), (1, .class_ 391), (0, u "java/util/Collections$SingletonList"), (1, .class_ 394), (0, u "java/util/Collections$SingletonMap"), (22, .class_ 418), (0, u "java/util/Collections$CopiesList"), (4, .class_ 425), (1, u "java/util/Collections$ReverseComparator"), (8, .class_ 435), (0, u "java/util/Collections$ReverseComparator2"), (6, .class_ 443), (0, u "java/util/Collections$3"), (25, .class_ 470), (0, u "java/util/Collections$SetFromMap"), (2, .class_ 474), (0, u "java/util/Collections$SequencedSetFromMap"), (3, .class_ 479), (0, u "java/util/Collections$AsLIFOQueue"), (11, .class_ 492), (0, u "java/util/Collections$EmptySet"), (1, .class_ 495), (0, u "java/util/Collections$EmptyList"), (1, .class_ 498), (0, u "java/util/Collections$EmptyMap"), (1, u "BINARYSEARCH_THRESHOLD"), (0, u "I"), (2, u "REVERSE_THRESHOLD"), (1, u "SHUFFLE_THRESHOLD"), (1, u "FILL_THRESHOLD"), (1, u "ROTATE_THRESHOLD"), (1, u "COPY_THRESHOLD"), (1, u "REPLACEALL_THRESHOLD"), (1, u "INDEXOFSUBLIST_THRESHOLD"), (129, u "unmodifiableList"), (0, u "(Ljava/util/List;)Ljava/util/List;"), (202, .class_ 851), (0, u "java/util/Collections$CheckedMap$CheckedEntrySet"), (0, .class_ 853), (0, u "java/util/Collections$CheckedMap$CheckedEntrySet$CheckedEntry"), (0, .class_ 855), (0, u "java/util/Collections$CheckedMap$CheckedEntrySet$1"), (0, .class_ 857), (0, u "java/util/Collections$CheckedList$1"), (0, .class_ 859), (0, u "java/util/Collections$CheckedCollection$1"), (0, .class_ 861), (0, u "java/util/Collections$UnmodifiableNavigableMap$EmptyNavigableMap"), (0, .class_ 863), (0, u "java/util/Collections$UnmodifiableMap$UnmodifiableEntrySet"), (0, .class_ 865), (0, u "java/util/Collections$UnmodifiableMap$UnmodifiableEntrySet$UnmodifiableEntry"), (0, .class_ 867), (0, u "java/util/Collections$UnmodifiableMap$UnmodifiableEntrySet$UnmodifiableEntrySetSpliterator"), (0, .class_ 869), (0, u "java/util/Collections$UnmodifiableMap$UnmodifiableEntrySet$1"), (0, .class_ 871), (0, u "java/util/Collections$UnmodifiableList$1"), (0, .class_ 873), (0, u "java/util/Collections$UnmodifiableNavigableSet$EmptyNavigableSet"), (0, .class_ 875), (0, u "java/util/Collections$UnmodifiableCollection$1")] 57

def k26m0 : Method := { name := "<init>", desc := "()V", sig := { parameters := [], returnType := none }, accessFlags := 2, code := none }
def k26c1 : Code := { maxStack := 3, maxLocals := 1, code := jdk_79_method_35_code, exceptionTable := #[], attributes := #[] }
def k26m1 : Method := { name := "unmodifiableList", desc := "(Ljava/util/List;)Ljava/util/List;", sig := { parameters := [(.object "java/util/List")], returnType := some (.object "java/util/List") }, accessFlags := 9, code := some k26c1 }
/-- java/util/Collections -/
def k26 : Class := { plain "java/util/Collections" (some 0) with
  accessFlags := 33
  interfaces := #[]
  cf := some (fileOf pool26 19 #[.nestMembers #[478, 473, 469, 434, 423, 417, 393, 390, 380, 497, 494, 491, 355, 350, 344, 338, 333, 328, 850, 852, 854, 320, 325, 856, 315, 310, 305, 300, 287, 858, 284, 281, 278, 268, 271, 265, 262, 256, 250, 245, 860, 237, 231, 223, 862, 864, 866, 868, 215, 212, 870, 206, 872, 198, 190, 182, 174, 166, 874, 442, 387, 384]] #[{ accessFlags := 2, nameIndex := 5, descriptorIndex := 6, attributes := #[] }, { accessFlags := 9, nameIndex := 646, descriptorIndex := 647, attributes := #[] }] 33 2 #[] #[{ accessFlags := 26, nameIndex := 500, descriptorIndex := 501, attributes := #[] }, { accessFlags := 26, nameIndex := 504, descriptorIndex := 501, attributes := #[] }, { accessFlags := 26, nameIndex := 506, descriptorIndex := 501, attributes := #[] }, { accessFlags := 26, nameIndex := 508, descriptorIndex := 501, attributes := #[] }, { accessFlags := 26, nameIndex := 510, descriptorIndex := 501, attributes := #[] }, { accessFlags := 26, nameIndex := 512, descriptorIndex := 501, attributes := #[] }, { accessFlags := 26, nameIndex := 514, descriptorIndex := 501, attributes := #[] }, { accessFlags := 26, nameIndex := 516, descriptorIndex := 501, attributes := #[] }, { accessFlags := 10, nameIndex := 84, descriptorIndex := 85, attributes := #[] }, { accessFlags := 25, nameIndex := 362, descriptorIndex := 363, attributes := #[] }, { accessFlags := 25, nameIndex := 370, descriptorIndex := 371, attributes := #[] }, { accessFlags := 25, nameIndex := 374, descriptorIndex := 375, attributes := #[] }])
  fields := #[{ name := "BINARYSEARCH_THRESHOLD", type := .int, accessFlags := 26, slot := 0, constantValue := 0 }, { name := "REVERSE_THRESHOLD", type := .int, accessFlags := 26, slot := 1, constantValue := 0 }, { name := "SHUFFLE_THRESHOLD", type := .int, accessFlags := 26, slot := 2, constantValue := 0 }, { name := "FILL_THRESHOLD", type := .int, accessFlags := 26, slot := 3, constantValue := 0 }, { name := "ROTATE_THRESHOLD", type := .int, accessFlags := 26, slot := 4, constantValue := 0 }, { name := "COPY_THRESHOLD", type := .int, accessFlags := 26, slot := 5, constantValue := 0 }, { name := "REPLACEALL_THRESHOLD", type := .int, accessFlags := 26, slot := 6, constantValue := 0 }, { name := "INDEXOFSUBLIST_THRESHOLD", type := .int, accessFlags := 26, slot := 7, constantValue := 0 }, { name := "r", type := (.object "java/util/Random"), accessFlags := 10, slot := 8, constantValue := 0 }, { name := "EMPTY_SET", type := (.object "java/util/Set"), accessFlags := 25, slot := 9, constantValue := 0 }, { name := "EMPTY_LIST", type := (.object "java/util/List"), accessFlags := 25, slot := 10, constantValue := 0 }, { name := "EMPTY_MAP", type := (.object "java/util/Map"), accessFlags := 25, slot := 11, constantValue := 0 }]
  methods := #[k26m0, k26m1]
  instanceTypes := #[]
  staticTypes := #[.int, .int, .int, .int, .int, .int, .int, .int, (.object "java/util/Random"), (.object "java/util/Set"), (.object "java/util/List"), (.object "java/util/Map")]
  resolved := Array.replicate 933 none
  statics := none }

def pool27 : Array CpInfo := pool [(1, .methodref 2 3), (0, .class_ 4), (0, .nameAndType 5 6), (0, u "java/lang/Object"), (0, u "<init>"), (0, u "()V"), (3, .fieldref 11 12), (0, .class_ 13), (0, .nameAndType 14 15), (0, u "java/util/Collections$UnmodifiableCollection"), (0, u "c"), (0, u "Ljava/util/Collection;"), (1, .class_ 19), (1, u "java/util/Collection"), (2, .interfaceMethodref 17 23), (0, .nameAndType 24 25), (0, u "isEmpty"), (0, u "()Z"), (45, .class_ 72), (0, u "java/io/Serializable"), (0, u "serialVersionUID"), (0, u "J"), (5, u "(Ljava/util/Collection;)V"), (51, .class_ 133), (0, u "java/util/Collections")] 2

def k27c0 : Code := { maxStack := 2, maxLocals := 2, code := jdk_119_method_1_code, exceptionTable := #[], attributes := #[] }
def k27m0 : Method := { name := "<init>", desc := "(Ljava/util/Collection;)V", sig := { parameters := [(.object "java/util/Collection")], returnType := none }, accessFlags := 0, code := some k27c0 }
def k27c1 : Code := { maxStack := 1, maxLocals := 1, code := jdk_119_method_3_code, exceptionTable := #[], attributes := #[] }
def k27m1 : Method := { name := "isEmpty", desc := "()Z", sig := { parameters := [], returnType := some .boolean }, accessFlags := 1, code := some k27c1 }
/-- java/util/Collections$UnmodifiableCollection -/
def k27 : Class := { plain "java/util/Collections$UnmodifiableCollection" (some 0) with
  accessFlags := 32
  interfaces := #[11, 2]
  cf := some (fileOf pool27 11 #[.nestHost 132] #[{ accessFlags := 0, nameIndex := 5, descriptorIndex := 80, attributes := #[] }, { accessFlags := 1, nameIndex := 24, descriptorIndex := 25, attributes := #[] }] 32 2 #[17, 71] #[{ accessFlags := 26, nameIndex := 73, descriptorIndex := 74, attributes := #[] }, { accessFlags := 16, nameIndex := 14, descriptorIndex := 15, attributes := #[] }])
  fields := #[{ name := "serialVersionUID", type := .long, accessFlags := 26, slot := 0, constantValue := 0 }, { name := "c", type := (.object "java/util/Collection"), accessFlags := 16, slot := 0, constantValue := 0 }]
  methods := #[k27m0, k27m1]
  instanceTypes := #[(.object "java/util/Collection")]
  staticTypes := #[.long]
  resolved := Array.replicate 136 none
  statics := none }

def pool28 : Array CpInfo := pool [(1, .methodref 2 3), (0, .class_ 4), (0, .nameAndType 5 6), (0, u "java/util/Collections$UnmodifiableCollection"), (0, u "<init>"), (0, u "(Ljava/util/Collection;)V"), (0, .fieldref 8 9), (0, .class_ 10), (0, .nameAndType 11 12), (0, u "java/util/Collections$UnmodifiableList"), (0, u "list"), (0, u "Ljava/util/List;"), (1, .class_ 16), (1, u "java/util/List"), (37, u "(Ljava/util/List;)V"), (5, u "serialVersionUID"), (0, u "J"), (59, .class_ 122), (0, u "java/util/Collections")] 4

def k28c0 : Code := { maxStack := 2, maxLocals := 2, code := jdk_120_method_1_code, exceptionTable := #[], attributes := #[] }
def k28m0 : Method := { name := "<init>", desc := "(Ljava/util/List;)V", sig := { parameters := [(.object "java/util/List")], returnType := none }, accessFlags := 0, code := some k28c0 }
/-- java/util/Collections$UnmodifiableList -/
def k28 : Class := { plain "java/util/Collections$UnmodifiableList" (some 27) with
  accessFlags := 32
  interfaces := #[14]
  cf := some (fileOf pool28 8 #[.nestHost 121] #[{ accessFlags := 0, nameIndex := 5, descriptorIndex := 54, attributes := #[] }] 32 2 #[14] #[{ accessFlags := 26, nameIndex := 60, descriptorIndex := 61, attributes := #[] }, { accessFlags := 16, nameIndex := 11, descriptorIndex := 12, attributes := #[] }])
  fields := #[{ name := "serialVersionUID", type := .long, accessFlags := 26, slot := 0, constantValue := 0 }, { name := "list", type := (.object "java/util/List"), accessFlags := 16, slot := 1, constantValue := 0 }]
  methods := #[k28m0]
  instanceTypes := #[(.object "java/util/Collection"), (.object "java/util/List")]
  staticTypes := #[.long]
  resolved := Array.replicate 127 none
  mirror := some 6
  statics := none }

def pool29 : Array CpInfo := pool [(1, .methodref 2 3), (0, .class_ 4), (0, .nameAndType 5 6), (0, u "java/util/Collections$UnmodifiableList"), (0, u "<init>"), (0, u "(Ljava/util/List;)V"), (0, .class_ 8), (0, u "java/util/Collections$UnmodifiableRandomAccessList"), (11, .class_ 21), (0, u "java/util/RandomAccess"), (0, u "serialVersionUID"), (0, u "J"), (23, .class_ 48), (0, u "java/util/Collections")] 3

def k29c0 : Code := { maxStack := 2, maxLocals := 2, code := jdk_121_method_1_code, exceptionTable := #[], attributes := #[] }
def k29m0 : Method := { name := "<init>", desc := "(Ljava/util/List;)V", sig := { parameters := [(.object "java/util/List")], returnType := none }, accessFlags := 0, code := some k29c0 }
/-- java/util/Collections$UnmodifiableRandomAccessList -/
def k29 : Class := { plain "java/util/Collections$UnmodifiableRandomAccessList" (some 28) with
  accessFlags := 32
  interfaces := #[16]
  cf := some (fileOf pool29 7 #[.nestHost 47] #[{ accessFlags := 0, nameIndex := 5, descriptorIndex := 6, attributes := #[] }] 32 2 #[20] #[{ accessFlags := 26, nameIndex := 22, descriptorIndex := 23, attributes := #[] }])
  fields := #[{ name := "serialVersionUID", type := .long, accessFlags := 26, slot := 0, constantValue := 0 }]
  methods := #[k29m0]
  instanceTypes := #[(.object "java/util/Collection"), (.object "java/util/List")]
  staticTypes := #[.long]
  resolved := Array.replicate 52 none
  mirror := some 7
  statics := none }

def pool30 : Array CpInfo := pool [(2, .class_ 4), (1, u "java/lang/Object"), (0, u "<init>"), (0, u "()V"), (3, .class_ 11), (0, u "java/util/ImmutableCollections$List12"), (0, .class_ 13), (0, u "java/util/ImmutableCollections$ListN"), (3, u "Z"), (29, .class_ 49), (1, u "java/util/ImmutableCollections"), (0, u "$assertionsDisabled"), (5, u "[Ljava/lang/Object;"), (5, u "EMPTY_LIST"), (0, u "Ljava/util/ImmutableCollections$ListN;"), (8, u "EMPTY_LIST_NULLS"), (22, u "SALT32L"), (0, u "J"), (2, u "REVERSE"), (6, u "archivedObjects"), (2, u "EMPTY"), (0, u "Ljava/lang/Object;"), (0, .class_ 112), (0, u "java/util/ImmutableCollections$SetN"), (5, u "EMPTY_SET"), (0, u "Ljava/util/ImmutableCollections$SetN;"), (0, .class_ 121), (0, u "java/util/ImmutableCollections$MapN"), (3, u "EMPTY_MAP"), (0, u "Ljava/util/ImmutableCollections$MapN;"), (4, u "EXPAND_FACTOR"), (0, u "I"), (36, .class_ 170), (0, u "java/util/ImmutableCollections$MapN$MapNIterator"), (0, .class_ 172), (0, u "java/util/ImmutableCollections$MapN$1"), (0, .class_ 174), (0, u "java/util/ImmutableCollections$Map1"), (0, .class_ 176), (0, u "java/util/ImmutableCollections$AbstractImmutableMap"), (0, .class_ 178), (0, u "java/util/ImmutableCollections$SetN$SetNIterator"), (0, .class_ 180), (0, u "java/util/ImmutableCollections$Set12"), (0, .class_ 182), (0, u "java/util/ImmutableCollections$Set12$1"), (0, .class_ 184), (0, u "java/util/ImmutableCollections$AbstractImmutableSet"), (0, .class_ 186), (0, u "java/util/ImmutableCollections$SubList"), (0, .class_ 188), (0, u "java/util/ImmutableCollections$ListItr"), (0, .class_ 190), (0, u "java/util/ImmutableCollections$AbstractImmutableList"), (0, .class_ 192), (0, u "java/util/ImmutableCollections$AbstractImmutableCollection"), (0, .class_ 194), (0, u "java/util/ImmutableCollections$Access"), (0, .class_ 196), (0, u "java/util/ImmutableCollections$Access$1")] 16

def k30m0 : Method := { name := "<init>", desc := "()V", sig := { parameters := [], returnType := none }, accessFlags := 2, code := none }
/-- java/util/ImmutableCollections -/
def k30 : Class := { plain "java/util/ImmutableCollections" (some 0) with
  accessFlags := 32
  interfaces := #[]
  cf := some (fileOf pool30 47 #[.nestMembers #[120, 169, 171, 173, 175, 111, 177, 179, 181, 183, 12, 10, 185, 187, 189, 191, 193, 195]] #[{ accessFlags := 2, nameIndex := 5, descriptorIndex := 6, attributes := #[] }] 32 2 #[] #[{ accessFlags := 26, nameIndex := 95, descriptorIndex := 96, attributes := #[] }, { accessFlags := 26, nameIndex := 99, descriptorIndex := 17, attributes := #[] }, { accessFlags := 10, nameIndex := 106, descriptorIndex := 56, attributes := #[] }, { accessFlags := 26, nameIndex := 109, descriptorIndex := 110, attributes := #[] }, { accessFlags := 24, nameIndex := 62, descriptorIndex := 63, attributes := #[] }, { accessFlags := 24, nameIndex := 72, descriptorIndex := 63, attributes := #[] }, { accessFlags := 24, nameIndex := 118, descriptorIndex := 119, attributes := #[] }, { accessFlags := 24, nameIndex := 125, descriptorIndex := 126, attributes := #[] }, { accessFlags := 24, nameIndex := 131, descriptorIndex := 132, attributes := #[] }, { accessFlags := 4120, nameIndex := 50, descriptorIndex := 17, attributes := #[] }])
  fields := #[{ name := "SALT32L", type := .long, accessFlags := 26, slot := 0, constantValue := 0 }, { name := "REVERSE", type := .boolean, accessFlags := 26, slot := 1, constantValue := 0 }, { name := "archivedObjects", type := (.array (.object "java/lang/Object")), accessFlags := 10, slot := 2, constantValue := 0 }, { name := "EMPTY", type := (.object "java/lang/Object"), accessFlags := 26, slot := 3, constantValue := 0 }, { name := "EMPTY_LIST", type := (.object "java/util/ImmutableCollections$ListN"), accessFlags := 24, slot := 4, constantValue := 0 }, { name := "EMPTY_LIST_NULLS", type := (.object "java/util/ImmutableCollections$ListN"), accessFlags := 24, slot := 5, constantValue := 0 }, { name := "EMPTY_SET", type := (.object "java/util/ImmutableCollections$SetN"), accessFlags := 24, slot := 6, constantValue := 0 }, { name := "EMPTY_MAP", type := (.object "java/util/ImmutableCollections$MapN"), accessFlags := 24, slot := 7, constantValue := 0 }, { name := "EXPAND_FACTOR", type := .int, accessFlags := 24, slot := 8, constantValue := 0 }, { name := "$assertionsDisabled", type := .boolean, accessFlags := 4120, slot := 9, constantValue := 0 }]
  methods := #[k30m0]
  instanceTypes := #[]
  staticTypes := #[.long, .boolean, (.array (.object "java/lang/Object")), (.object "java/lang/Object"), (.object "java/util/ImmutableCollections$ListN"), (.object "java/util/ImmutableCollections$ListN"), (.object "java/util/ImmutableCollections$SetN"), (.object "java/util/ImmutableCollections$MapN"), .int, .boolean]
  resolved := Array.replicate 213 none
  statics := some 2 }

def pool31 : Array CpInfo := pool [(2, .class_ 4), (1, u "java/util/AbstractCollection"), (0, u "<init>"), (0, u "()V"), (1, .class_ 10), (1, u "java/util/ImmutableCollections"), (2, .class_ 14), (0, u "java/util/ImmutableCollections$AbstractImmutableCollection")] 41

def k31m0 : Method := { name := "<init>", desc := "()V", sig := { parameters := [], returnType := none }, accessFlags := 0, code := none }
/-- java/util/ImmutableCollections$AbstractImmutableCollection -/
def k31 : Class := { plain "java/util/ImmutableCollections$AbstractImmutableCollection" (some 12) with
  accessFlags := 1056
  interfaces := #[]
  cf := some (fileOf pool31 13 #[.nestHost 8] #[{ accessFlags := 0, nameIndex := 5, descriptorIndex := 6, attributes := #[] }] 1056 2 #[] #[])
  fields := #[]
  methods := #[k31m0]
  instanceTypes := #[]
  staticTypes := #[]
  resolved := Array.replicate 56 none
  statics := none }

def pool32 : Array CpInfo := pool [(2, .class_ 4), (1, u "java/util/ImmutableCollections$AbstractImmutableCollection"), (0, u "<init>"), (0, u "()V"), (1, .class_ 10), (1, u "java/util/ImmutableCollections"), (3, .class_ 16), (1, u "java/util/ImmutableCollections$AbstractImmutableList"), (60, .class_ 78), (0, u "java/util/List"), (45, .class_ 125), (0, u "java/util/RandomAccess")] 70

def k32m0 : Method := { name := "<init>", desc := "()V", sig := { parameters := [], returnType := none }, accessFlags := 0, code := none }
/-- java/util/ImmutableCollections$AbstractImmutableList -/
def k32 : Class := { plain "java/util/ImmutableCollections$AbstractImmutableList" (some 31) with
  accessFlags := 1056
  interfaces := #[14, 16]
  cf := some (fileOf pool32 14 #[.nestHost 8] #[{ accessFlags := 0, nameIndex := 5, descriptorIndex := 6, attributes := #[] }] 1056 2 #[77, 124] #[])
  fields := #[]
  methods := #[k32m0]
  instanceTypes := #[]
  staticTypes := #[]
  resolved := Array.replicate 196 none
  statics := none }

def pool33 : Array CpInfo := pool [(2, .class_ 4), (1, u "java/util/ImmutableCollections$AbstractImmutableList"), (2, .fieldref 8 9), (0, .class_ 10), (0, .nameAndType 11 12), (0, u "java/util/ImmutableCollections$ListN"), (0, u "elements"), (0, u "[Ljava/lang/Object;"), (2, u "allowNulls"), (0, u "Z"), (42, .class_ 60), (0, u "java/io/Serializable"), (13, u "isEmpty"), (0, u "()Z"), (38, .class_ 115), (0, u "java/util/ImmutableCollections")] 3

def k33c0 : Code := { maxStack := 1, maxLocals := 1, code := jdk_45_method_2_code, exceptionTable := #[], attributes := #[] }
def k33m0 : Method := { name := "isEmpty", desc := "()Z", sig := { parameters := [], returnType := some .boolean }, accessFlags := 1, code := some k33c0 }
/-- java/util/ImmutableCollections$ListN -/
def k33 : Class := { plain "java/util/ImmutableCollections$ListN" (some 32) with
  accessFlags := 48
  interfaces := #[2]
  cf := some (fileOf pool33 8 #[.nestHost 114] #[{ accessFlags := 1, nameIndex := 74, descriptorIndex := 75, attributes := #[] }] 48 2 #[59] #[{ accessFlags := 18, nameIndex := 11, descriptorIndex := 12, attributes := #[] }, { accessFlags := 18, nameIndex := 15, descriptorIndex := 16, attributes := #[] }])
  fields := #[{ name := "elements", type := (.array (.object "java/lang/Object")), accessFlags := 18, slot := 0, constantValue := 0 }, { name := "allowNulls", type := .boolean, accessFlags := 18, slot := 1, constantValue := 0 }]
  methods := #[k33m0]
  instanceTypes := #[(.array (.object "java/lang/Object")), .boolean]
  staticTypes := #[]
  resolved := Array.replicate 119 none
  statics := none }

def pool34 : Array CpInfo := pool [(2, .class_ 4), (1, u "java/lang/Object"), (0, u "<init>"), (0, u "()V"), (17, .class_ 26), (1, u "jdk/internal/util/Preconditions"), (28, .class_ 56), (0, u "jdk/internal/util/Preconditions$4"), (57, .class_ 115), (0, u "jdk/internal/util/Preconditions$1"), (7, u "SIOOBE_FORMATTER"), (0, u "Ljava/util/function/BiFunction;"), (0, .class_ 126), (0, u "jdk/internal/util/Preconditions$2"), (3, u "AIOOBE_FORMATTER"), (0, .class_ 132), (0, u "jdk/internal/util/Preconditions$3"), (3, u "IOOBE_FORMATTER")] 57

def k34m0 : Method := { name := "<init>", desc := "()V", sig := { parameters := [], returnType := none }, accessFlags := 1, code := none }
/-- jdk/internal/util/Preconditions -/
def k34 : Class := { plain "jdk/internal/util/Preconditions" (some 0) with
  accessFlags := 33
  interfaces := #[]
  cf := some (fileOf pool34 24 #[.nestMembers #[55, 131, 125, 114]] #[{ accessFlags := 1, nameIndex := 5, descriptorIndex := 6, attributes := #[] }] 33 2 #[] #[{ accessFlags := 25, nameIndex := 123, descriptorIndex := 124, attributes := #[] }, { accessFlags := 25, nameIndex := 130, descriptorIndex := 124, attributes := #[] }, { accessFlags := 25, nameIndex := 136, descriptorIndex := 124, attributes := #[] }])
  fields := #[{ name := "SIOOBE_FORMATTER", type := (.object "java/util/function/BiFunction"), accessFlags := 25, slot := 0, constantValue := 0 }, { name := "AIOOBE_FORMATTER", type := (.object "java/util/function/BiFunction"), accessFlags := 25, slot := 1, constantValue := 0 }, { name := "IOOBE_FORMATTER", type := (.object "java/util/function/BiFunction"), accessFlags := 25, slot := 2, constantValue := 0 }]
  methods := #[k34m0]
  instanceTypes := #[]
  staticTypes := #[(.object "java/util/function/BiFunction"), (.object "java/util/function/BiFunction"), (.object "java/util/function/BiFunction")]
  resolved := Array.replicate 194 none
  statics := some 3 }

def pool35 : Array CpInfo := pool [(9, u "<init>"), (6, .class_ 18), (1, u "java/lang/Object"), (0, u "()V"), (1, .class_ 23), (1, u "jdk/internal/util/ArraysSupport"), (0, u "LOG2_ARRAY_LONG_INDEX_SCALE"), (0, u "I"), (2, u "U"), (0, u "Ljdk/internal/misc/Unsafe;"), (8, u "BIG_ENDIAN"), (0, u "Z"), (8, u "LOG2_BYTE_BIT_SIZE"), (4, u "LOG2_ARRAY_INT_INDEX_SCALE"), (54, u "JLA"), (0, u "Ljdk/internal/access/JavaLangAccess;"), (11, u "LOG2_ARRAY_BOOLEAN_INDEX_SCALE"), (9, u "LOG2_ARRAY_BYTE_INDEX_SCALE"), (5, u "LOG2_ARRAY_CHAR_INDEX_SCALE"), (5, u "LOG2_ARRAY_SHORT_INDEX_SCALE"), (18, u "LOG2_ARRAY_FLOAT_INDEX_SCALE"), (24, u "LOG2_ARRAY_DOUBLE_INDEX_SCALE"), (89, u "T_BOOLEAN"), (2, u "T_CHAR"), (1, u "T_FLOAT"), (1, u "T_DOUBLE"), (1, u "T_BYTE"), (1, u "T_SHORT"), (1, u "T_INT"), (1, u "T_LONG"), (1, u "SOFT_MAX_ARRAY_LENGTH")] 83

def k35m0 : Method := { name := "<init>", desc := "()V", sig := { parameters := [], returnType := none }, accessFlags := 2, code := none }
/-- jdk/internal/util/ArraysSupport -/
def k35 : Class := { plain "jdk/internal/util/ArraysSupport" (some 0) with
  accessFlags := 33
  interfaces := #[]
  cf := some (fileOf pool35 21 #[] #[{ accessFlags := 2, nameIndex := 9, descriptorIndex := 19, attributes := #[] }] 33 16 #[] #[{ accessFlags := 24, nameIndex := 28, descriptorIndex := 29, attributes := #[] }, { accessFlags := 26, nameIndex := 38, descriptorIndex := 39, attributes := #[] }, { accessFlags := 25, nameIndex := 121, descriptorIndex := 25, attributes := #[] }, { accessFlags := 25, nameIndex := 131, descriptorIndex := 25, attributes := #[] }, { accessFlags := 25, nameIndex := 137, descriptorIndex := 25, attributes := #[] }, { accessFlags := 25, nameIndex := 143, descriptorIndex := 25, attributes := #[] }, { accessFlags := 25, nameIndex := 53, descriptorIndex := 25, attributes := #[] }, { accessFlags := 25, nameIndex := 24, descriptorIndex := 25, attributes := #[] }, { accessFlags := 25, nameIndex := 162, descriptorIndex := 25, attributes := #[] }, { accessFlags := 25, nameIndex := 187, descriptorIndex := 25, attributes := #[] }, { accessFlags := 26, nameIndex := 48, descriptorIndex := 25, attributes := #[] }, { accessFlags := 25, nameIndex := 277, descriptorIndex := 25, attributes := #[] }, { accessFlags := 25, nameIndex := 280, descriptorIndex := 25, attributes := #[] }, { accessFlags := 25, nameIndex := 282, descriptorIndex := 25, attributes := #[] }, { accessFlags := 25, nameIndex := 284, descriptorIndex := 25, attributes := #[] }, { accessFlags := 25, nameIndex := 286, descriptorIndex := 25, attributes := #[] }, { accessFlags := 25, nameIndex := 288, descriptorIndex := 25, attributes := #[] }, { accessFlags := 25, nameIndex := 290, descriptorIndex := 25, attributes := #[] }, { accessFlags := 25, nameIndex := 292, descriptorIndex := 25, attributes := #[] }, { accessFlags := 26, nameIndex := 108, descriptorIndex := 109, attributes := #[] }, { accessFlags := 25, nameIndex := 294, descriptorIndex := 25, attributes := #[] }])
  fields := #[{ name := "U", type := (.object "jdk/internal/misc/Unsafe"), accessFlags := 24, slot := 0, constantValue := 0 }, { name := "BIG_ENDIAN", type := .boolean, accessFlags := 26, slot := 1, constantValue := 0 }, { name := "LOG2_ARRAY_BOOLEAN_INDEX_SCALE", type := .int, accessFlags := 25, slot := 2, constantValue := 0 }, { name := "LOG2_ARRAY_BYTE_INDEX_SCALE", type := .int, accessFlags := 25, slot := 3, constantValue := 0 }, { name := "LOG2_ARRAY_CHAR_INDEX_SCALE", type := .int, accessFlags := 25, slot := 4, constantValue := 0 }, { name := "LOG2_ARRAY_SHORT_INDEX_SCALE", type := .int, accessFlags := 25, slot := 5, constantValue := 0 }, { name := "LOG2_ARRAY_INT_INDEX_SCALE", type := .int, accessFlags := 25, slot := 6, constantValue := 0 }, { name := "LOG2_ARRAY_LONG_INDEX_SCALE", type := .int, accessFlags := 25, slot := 7, constantValue := 0 }, { name := "LOG2_ARRAY_FLOAT_INDEX_SCALE", type := .int, accessFlags := 25, slot := 8, constantValue := 0 }, { name := "LOG2_ARRAY_DOUBLE_INDEX_SCALE", type := .int, accessFlags := 25, slot := 9, constantValue := 0 }, { name := "LOG2_BYTE_BIT_SIZE", type := .int, accessFlags := 26, slot := 10, constantValue := 0 }, { name := "T_BOOLEAN", type := .int, accessFlags := 25, slot := 11, constantValue := 0 }, { name := "T_CHAR", type := .int, accessFlags := 25, slot := 12, constantValue := 0 }, { name := "T_FLOAT", type := .int, accessFlags := 25, slot := 13, constantValue := 0 }, { name := "T_DOUBLE", type := .int, accessFlags := 25, slot := 14, constantValue := 0 }, { name := "T_BYTE", type := .int, accessFlags := 25, slot := 15, constantValue := 0 }, { name := "T_SHORT", type := .int, accessFlags := 25, slot := 16, constantValue := 0 }, { name := "T_INT", type := .int, accessFlags := 25, slot := 17, constantValue := 0 }, { name := "T_LONG", type := .int, accessFlags := 25, slot := 18, constantValue := 0 }, { name := "JLA", type := (.object "jdk/internal/access/JavaLangAccess"), accessFlags := 26, slot := 19, constantValue := 0 }, { name := "SOFT_MAX_ARRAY_LENGTH", type := .int, accessFlags := 25, slot := 20, constantValue := 0 }]
  methods := #[k35m0]
  instanceTypes := #[]
  staticTypes := #[(.object "jdk/internal/misc/Unsafe"), .boolean, .int, .int, .int, .int, .int, .int, .int, .int, .int, .int, .int, .int, .int, .int, .int, .int, .int, (.object "jdk/internal/access/JavaLangAccess"), .int]
  resolved := Array.replicate 378 none
  statics := none }

def pool36 : Array CpInfo := pool [(1, u "java/lang/Class"), (0, .class_ 1), (0, u "java/lang/Object"), (0, .class_ 3)] 0

/-- java/lang/Class -/
def k36 : Class := { plain "java/lang/Class" (some 0) with
  accessFlags := 49
  interfaces := #[]
  cf := some (fileOf pool36 2 #[] #[] 49 4 #[] #[])
  fields := #[]
  methods := #[]
  instanceTypes := #[]
  staticTypes := #[]
  resolved := Array.replicate 5 none
  statics := none }

/-- the primitive byte -/
def k37 : Class := { plain "byte" none with kind := .primitive 'B', accessFlags := 0x411 }
/-- [B -/
def k38 : Class := { plain "[B" (some 0) with kind := .array 37 .byte, interfaces := #[17, 2], accessFlags := 1041 }

/-- the primitive char -/
def k39 : Class := { plain "char" none with kind := .primitive 'C', accessFlags := 0x411 }
/-- [C -/
def k40 : Class := { plain "[C" (some 0) with kind := .array 39 .char, interfaces := #[17, 2], accessFlags := 1041 }

/-- the primitive int -/
def k41 : Class := { plain "int" none with kind := .primitive 'I', accessFlags := 0x411 }
/-- [I -/
def k42 : Class := { plain "[I" (some 0) with kind := .array 41 .int, interfaces := #[17, 2], accessFlags := 1041 }

/-- [Ljava/lang/Object; -/
def k43 : Class := { plain "[Ljava/lang/Object;" (some 0) with kind := .array 0 (.object "java/lang/Object"), interfaces := #[17, 2], accessFlags := 1041, mirror := some 4 }

def heap : Heap := #[{ cls := 7, slots := #[.long 0, .int 1, .null, .int 0, .null, .int 0, .int 0], vm := .statics 7 },
  { cls := 18, slots := #[.long 0, .int 0, .ref 8, .ref 9], vm := .statics 18 },
  { cls := 30, slots := #[.long 0, .int 0, .null, .null, .ref 10, .null, .null, .null, .int 0, .int 0], vm := .statics 30 },
  { cls := 34, slots := #[.null, .null, .null], vm := .statics 34 },
  { cls := 36, slots := #[], vm := .mirror 43 },
  { cls := 36, slots := #[], vm := .mirror 18 },
  { cls := 36, slots := #[], vm := .mirror 28 },
  { cls := 36, slots := #[], vm := .mirror 29 },
  { cls := 43, slots := #[], vm := .none },
  { cls := 43, slots := #[], vm := .none },
  { cls := 33, slots := #[.ref 8, .int 0], vm := .none }]
def classes : Array Class := #[k0, k1, k2, k3, k4, k5, k6, k7, k8, k9, k10, k11, k12, k13, k14, k15, k16, k17, k18, k19, k20, k21, k22, k23, k24, k25, k26, k27, k28, k29, k30, k31, k32, k33, k34, k35, k36, k37, k38, k39, k40, k41, k42, k43]
def interned : List (Array UInt16 × Addr) := []
def slotsUsed : Nat := 26
def theMethod : MethodId := ⟨1, 1⟩
def args0 : Array Value := #[.int 5, .int 5, .int 5, .int 5]
def aboutOver (below : List Frame) : State where
  vm := { classes := classes, interned := interned.toArray }
  heap := heap
  slotsUsed := slotsUsed
  threads := #[{ frames := .invoking theMethod args0 :: below }]
def below0 : List Frame := [.native { method := ⟨0, 0⟩, args := #[] }]
def about1 : State := aboutOver below0
def p0 : Program := .bare "" "" ""
def e0 : Env := launch0.env 0 0 0
theorem w_frames : about1.frames = Frame.invoking theMethod args0 :: below0 := rfl
set_option maxRecDepth 65536 in
theorem w_args : argsFit about1.vm theMethod args0 = true := by decide +kernel
set_option maxRecDepth 65536 in
theorem w_heap : heapFits about1 = true := by decide +kernel
set_option maxRecDepth 65536 in
theorem w_runnable : about1.curStatus? = some .runnable := by decide +kernel
set_option maxRecDepth 65536 in
theorem w_alone : about1.alone = true := by decide +kernel
set_option maxRecDepth 65536 in
theorem w_named : about1.methodNamed? x = some theMethod := by decide +kernel
set_option maxRecDepth 65536 in
theorem w_hears : about1.hears theMethod below0 = true := by decide +kernel
set_option maxRecDepth 65536 in
theorem w_ripe : about1.ripe theMethod args0 below0 = true := by decide +kernel
theorem w_running : about1.status = .running := rfl
set_option maxRecDepth 65536 in
theorem w_room : about1.hasRoom e0.platform room_1 = true :=
  launch0.hasRoom_least _ room_1 (by decide +kernel) (by decide +kernel) (by decide +kernel) (by decide +kernel) (by decide +kernel) (by decide +kernel)
theorem allAtoms_all (ts : List Jvm.Cond) (a : Array Jvm.Value) (st : Jvm.State) : (allAtoms ts).before a st = ts.all (fun c => c.before a st) := by
  induction ts with
  | nil => rfl
  | cons c t ih =>
    show (Jvm.Cond.and c (allAtoms t)).before a st = _
    rw [Jvm.Cond.before_and, ih, List.all_cons]
def words1 : List Jvm.Cond := Jvm.Cond.code x code maxLocals ret :: tables_1
/-- a 'code' word, met by the world's own term for the bytes: nothing is compared byte by byte -/
theorem code_word {y : MethodName} {bytes : ByteArray} {mx : Nat} {rt : Option FieldType} {a : Array Value} {s : State} {m : MethodId} {meth : Method} {c : Code} (h1 : s.methodNamed? y = some m) (h2 : s.vm.method? m = some meth) (h3 : meth.code = some c) (h4 : c.code = bytes)
    (h5 : (c.maxLocals == mx && c.exceptionTable.isEmpty && decide (c.maxStack ≤ mostOperands) && decide (meth.sig.returnType = rt) && !meth.locks && decide (parseMethodDescriptor y.desc = some meth.sig)) = true) : (Jvm.Cond.code y bytes mx rt).before a s = true := by
  simp only [Bool.and_eq_true, beq_iff_eq, Bool.not_eq_true', decide_eq_true_eq] at h5
  obtain ⟨⟨⟨⟨⟨g1, g2⟩, g3⟩, g4⟩, g5⟩, g6⟩ := h5
  simp [Cond.before, Cond.holds, Cond.value, h1, h2, h3, h4, g1, g2, g3, g4, g5, g6]
def isCode : Jvm.Cond → Bool
  | .code _ _ _ _ => true
  | _ => false
theorem all_split {L : List Jvm.Cond} {P : Jvm.Cond → Bool} (h1 : L.all (fun c => isCode c || P c) = true) (h2 : ∀ c ∈ L.filter isCode, P c = true) : L.all P = true := by
  refine List.all_eq_true.mpr fun c hc => ?_
  have h := List.all_eq_true.mp h1 c hc
  rcases Bool.eq_false_or_eq_true (isCode c) with hi | hi
  · exact h2 c (List.mem_filter.mpr ⟨hc, hi⟩)
  · simpa [hi] using h
set_option maxRecDepth 65536 in
theorem w_c0 : (Jvm.Cond.code x code maxLocals ret).before args0 about1 = true := code_word (m := ⟨1, 1⟩) (meth := k1m1) (c := k1c1) (by decide +kernel) rfl rfl rfl (by decide +kernel)
set_option maxRecDepth 65536 in
theorem w_c1 : (Jvm.Cond.code ({ cls := "java/lang/String", name := "valueOf", desc := "(C)Ljava/lang/String;" } : Jvm.MethodName) jdk_42_method_139_code (1 : Nat) (Option.some (Jvm.ClassFile.FieldType.object "java/lang/String"))).before args0 about1 = true := code_word (m := ⟨7, 2⟩) (meth := k7m2) (c := k7c2) (by decide +kernel) rfl rfl rfl (by decide +kernel)
set_option maxRecDepth 65536 in
theorem w_c2 : (Jvm.Cond.code ({ cls := "java/lang/StringLatin1", name := "canEncode", desc := "(C)Z" } : Jvm.MethodName) jdk_43_method_3_code (1 : Nat) (Option.some Jvm.ClassFile.FieldType.boolean)).before args0 about1 = true := code_word (m := ⟨8, 1⟩) (meth := k8m1) (c := k8c1) (by decide +kernel) rfl rfl rfl (by decide +kernel)
set_option maxRecDepth 65536 in
theorem w_c3 : (Jvm.Cond.code ({ cls := "java/lang/StringLatin1", name := "toBytes", desc := "(C)[B" } : Jvm.MethodName) jdk_43_method_46_code (1 : Nat) (Option.some (Jvm.ClassFile.FieldType.array Jvm.ClassFile.FieldType.byte))).before args0 about1 = true := code_word (m := ⟨8, 2⟩) (meth := k8m2) (c := k8c2) (by decide +kernel) rfl rfl rfl (by decide +kernel)
set_option maxRecDepth 65536 in
theorem w_c4 : (Jvm.Cond.code ({ cls := "java/lang/String", name := "<init>", desc := "([BB)V" } : Jvm.MethodName) jdk_42_method_151_code (3 : Nat) (Option.none : Option Jvm.ClassFile.FieldType)).before args0 about1 = true := code_word (m := ⟨7, 4⟩) (meth := k7m4) (c := k7c4) (by decide +kernel) rfl rfl rfl (by decide +kernel)
set_option maxRecDepth 65536 in
theorem w_c5 : (Jvm.Cond.code ({ cls := "java/lang/Object", name := "<init>", desc := "()V" } : Jvm.MethodName) object_method_1_code (1 : Nat) (Option.none : Option Jvm.ClassFile.FieldType)).before args0 about1 = true := code_word (m := ⟨0, 0⟩) (meth := k0m0) (c := k0c0) (by decide +kernel) rfl rfl rfl (by decide +kernel)
set_option maxRecDepth 65536 in
theorem w_c6 : (Jvm.Cond.code ({ cls := "java/lang/String", name := "<init>", desc := "([C)V" } : Jvm.MethodName) jdk_42_method_3_code (2 : Nat) (Option.none : Option Jvm.ClassFile.FieldType)).before args0 about1 = true := code_word (m := ⟨7, 1⟩) (meth := k7m1) (c := k7c1) (by decide +kernel) rfl rfl rfl (by decide +kernel)
set_option maxRecDepth 65536 in
theorem w_c7 : (Jvm.Cond.code ({ cls := "java/lang/String", name := "<init>", desc := "([CIILjava/lang/Void;)V" } : Jvm.MethodName) jdk_42_method_149_code (6 : Nat) (Option.none : Option Jvm.ClassFile.FieldType)).before args0 about1 = true := code_word (m := ⟨7, 3⟩) (meth := k7m3) (c := k7c3) (by decide +kernel) rfl rfl rfl (by decide +kernel)
set_option maxRecDepth 65536 in
theorem w_c8 : (Jvm.Cond.code ({ cls := "java/lang/StringUTF16", name := "compress", desc := "([CII)[B" } : Jvm.MethodName) jdk_52_method_16_code (6 : Nat) (Option.some (Jvm.ClassFile.FieldType.array Jvm.ClassFile.FieldType.byte))).before args0 about1 = true := code_word (m := ⟨9, 2⟩) (meth := k9m2) (c := k9c2) (by decide +kernel) rfl rfl rfl (by decide +kernel)
set_option maxRecDepth 65536 in
theorem w_c9 : (Jvm.Cond.code ({ cls := "java/lang/StringUTF16", name := "compress", desc := "([CI[BII)I" } : Jvm.MethodName) jdk_52_method_21_code (7 : Nat) (Option.some Jvm.ClassFile.FieldType.int)).before args0 about1 = true := code_word (m := ⟨9, 3⟩) (meth := k9m3) (c := k9c3) (by decide +kernel) rfl rfl rfl (by decide +kernel)
set_option maxRecDepth 65536 in
theorem w_c10 : (Jvm.Cond.code ({ cls := "java/lang/StringUTF16", name := "coderFromArrayLen", desc := "([BI)B" } : Jvm.MethodName) jdk_52_method_15_code (2 : Nat) (Option.some Jvm.ClassFile.FieldType.byte)).before args0 about1 = true := code_word (m := ⟨9, 1⟩) (meth := k9m1) (c := k9c1) (by decide +kernel) rfl rfl rfl (by decide +kernel)
set_option maxRecDepth 65536 in
theorem w_c11 : (Jvm.Cond.code ({ cls := "java/util/ArrayList", name := "<init>", desc := "()V" } : Jvm.MethodName) jdk_38_method_2_code (1 : Nat) (Option.none : Option Jvm.ClassFile.FieldType)).before args0 about1 = true := code_word (m := ⟨18, 0⟩) (meth := k18m0) (c := k18c0) (by decide +kernel) rfl rfl rfl (by decide +kernel)
set_option maxRecDepth 65536 in
theorem w_c12 : (Jvm.Cond.code ({ cls := "java/util/AbstractList", name := "<init>", desc := "()V" } : Jvm.MethodName) jdk_39_method_1_code (1 : Nat) (Option.none : Option Jvm.ClassFile.FieldType)).before args0 about1 = true := code_word (m := ⟨15, 0⟩) (meth := k15m0) (c := k15c0) (by decide +kernel) rfl rfl rfl (by decide +kernel)
set_option maxRecDepth 65536 in
theorem w_c13 : (Jvm.Cond.code ({ cls := "java/util/AbstractCollection", name := "<init>", desc := "()V" } : Jvm.MethodName) jdk_22_method_1_code (1 : Nat) (Option.none : Option Jvm.ClassFile.FieldType)).before args0 about1 = true := code_word (m := ⟨12, 0⟩) (meth := k12m0) (c := k12c0) (by decide +kernel) rfl rfl rfl (by decide +kernel)
set_option maxRecDepth 65536 in
theorem w_c14 : (Jvm.Cond.code ({ cls := "com/example/treegraft/treegraft/brackets/Atom", name := "<init>", desc := "(Ljava/lang/String;I)V" } : Jvm.MethodName) prog_5_method_1_code (3 : Nat) (Option.none : Option Jvm.ClassFile.FieldType)).before args0 about1 = true := code_word (m := ⟨21, 0⟩) (meth := k21m0) (c := k21c0) (by decide +kernel) rfl rfl rfl (by decide +kernel)
set_option maxRecDepth 65536 in
theorem w_c15 : (Jvm.Cond.code ({ cls := "java/lang/Record", name := "<init>", desc := "()V" } : Jvm.MethodName) jdk_30_method_1_code (1 : Nat) (Option.none : Option Jvm.ClassFile.FieldType)).before args0 about1 = true := code_word (m := ⟨19, 0⟩) (meth := k19m0) (c := k19c0) (by decide +kernel) rfl rfl rfl (by decide +kernel)
set_option maxRecDepth 65536 in
theorem w_c16 : (Jvm.Cond.code ({ cls := "java/util/ArrayList", name := "add", desc := "(Ljava/lang/Object;)Z" } : Jvm.MethodName) jdk_38_method_25_code (2 : Nat) (Option.some Jvm.ClassFile.FieldType.boolean)).before args0 about1 = true := code_word (m := ⟨18, 7⟩) (meth := k18m7) (c := k18c7) (by decide +kernel) rfl rfl rfl (by decide +kernel)
set_option maxRecDepth 65536 in
theorem w_c17 : (Jvm.Cond.code ({ cls := "java/util/ArrayList", name := "add", desc := "(Ljava/lang/Object;[Ljava/lang/Object;I)V" } : Jvm.MethodName) jdk_38_method_24_code (4 : Nat) (Option.none : Option Jvm.ClassFile.FieldType)).before args0 about1 = true := code_word (m := ⟨18, 6⟩) (meth := k18m6) (c := k18c6) (by decide +kernel) rfl rfl rfl (by decide +kernel)
set_option maxRecDepth 65536 in
theorem w_c18 : (Jvm.Cond.code ({ cls := "java/util/ArrayList", name := "grow", desc := "()[Ljava/lang/Object;" } : Jvm.MethodName) jdk_38_method_7_code (1 : Nat) (Option.some (Jvm.ClassFile.FieldType.array (Jvm.ClassFile.FieldType.object "java/lang/Object")))).before args0 about1 = true := code_word (m := ⟨18, 3⟩) (meth := k18m3) (c := k18c3) (by decide +kernel) rfl rfl rfl (by decide +kernel)
set_option maxRecDepth 65536 in
theorem w_c19 : (Jvm.Cond.code ({ cls := "java/util/ArrayList", name := "grow", desc := "(I)[Ljava/lang/Object;" } : Jvm.MethodName) jdk_38_method_6_code (4 : Nat) (Option.some (Jvm.ClassFile.FieldType.array (Jvm.ClassFile.FieldType.object "java/lang/Object")))).before args0 about1 = true := code_word (m := ⟨18, 2⟩) (meth := k18m2) (c := k18c2) (by decide +kernel) rfl rfl rfl (by decide +kernel)
set_option maxRecDepth 65536 in
theorem w_c20 : (Jvm.Cond.code ({ cls := "java/lang/Math", name := "max", desc := "(II)I" } : Jvm.MethodName) jdk_29_method_65_code (2 : Nat) (Option.some Jvm.ClassFile.FieldType.int)).before args0 about1 = true := code_word (m := ⟨22, 1⟩) (meth := k22m1) (c := k22c1) (by decide +kernel) rfl rfl rfl (by decide +kernel)
set_option maxRecDepth 65536 in
theorem w_c21 : (Jvm.Cond.code ({ cls := "com/example/treegraft/treegraft/brackets/Bracket", name := "<init>", desc := "(Ljava/lang/String;Ljava/lang/String;Ljava/util/List;I)V" } : Jvm.MethodName) prog_6_method_1_code (5 : Nat) (Option.none : Option Jvm.ClassFile.FieldType)).before args0 about1 = true := code_word (m := ⟨23, 0⟩) (meth := k23m0) (c := k23c0) (by decide +kernel) rfl rfl rfl (by decide +kernel)
set_option maxRecDepth 65536 in
theorem w_c22 : (Jvm.Cond.code ({ cls := "java/util/ArrayList", name := "isEmpty", desc := "()Z" } : Jvm.MethodName) jdk_38_method_9_code (1 : Nat) (Option.some Jvm.ClassFile.FieldType.boolean)).before args0 about1 = true := code_word (m := ⟨18, 4⟩) (meth := k18m4) (c := k18c4) (by decide +kernel) rfl rfl rfl (by decide +kernel)
set_option maxRecDepth 65536 in
theorem w_c23 : (Jvm.Cond.code ({ cls := "java/util/ArrayList", name := "<init>", desc := "(Ljava/util/Collection;)V" } : Jvm.MethodName) jdk_38_method_3_code (3 : Nat) (Option.none : Option Jvm.ClassFile.FieldType)).before args0 about1 = true := code_word (m := ⟨18, 1⟩) (meth := k18m1) (c := k18c1) (by decide +kernel) rfl rfl rfl (by decide +kernel)
set_option maxRecDepth 65536 in
theorem w_c24 : (Jvm.Cond.code ({ cls := "java/util/ArrayList", name := "toArray", desc := "()[Ljava/lang/Object;" } : Jvm.MethodName) jdk_38_method_16_code (1 : Nat) (Option.some (Jvm.ClassFile.FieldType.array (Jvm.ClassFile.FieldType.object "java/lang/Object")))).before args0 about1 = true := code_word (m := ⟨18, 5⟩) (meth := k18m5) (c := k18c5) (by decide +kernel) rfl rfl rfl (by decide +kernel)
set_option maxRecDepth 65536 in
theorem w_c25 : (Jvm.Cond.code ({ cls := "java/util/Arrays", name := "copyOf", desc := "([Ljava/lang/Object;I)[Ljava/lang/Object;" } : Jvm.MethodName) jdk_65_method_119_code (2 : Nat) (Option.some (Jvm.ClassFile.FieldType.array (Jvm.ClassFile.FieldType.object "java/lang/Object")))).before args0 about1 = true := code_word (m := ⟨24, 1⟩) (meth := k24m1) (c := k24c1) (by decide +kernel) rfl rfl rfl (by decide +kernel)
set_option maxRecDepth 65536 in
theorem w_c26 : (Jvm.Cond.code ({ cls := "java/util/Arrays", name := "copyOf", desc := "([Ljava/lang/Object;ILjava/lang/Class;)[Ljava/lang/Object;" } : Jvm.MethodName) jdk_65_method_120_code (4 : Nat) (Option.some (Jvm.ClassFile.FieldType.array (Jvm.ClassFile.FieldType.object "java/lang/Object")))).before args0 about1 = true := code_word (m := ⟨24, 2⟩) (meth := k24m2) (c := k24c2) (by decide +kernel) rfl rfl rfl (by decide +kernel)
set_option maxRecDepth 65536 in
theorem w_c27 : (Jvm.Cond.code ({ cls := "java/lang/Math", name := "min", desc := "(II)I" } : Jvm.MethodName) jdk_29_method_69_code (2 : Nat) (Option.some Jvm.ClassFile.FieldType.int)).before args0 about1 = true := code_word (m := ⟨22, 2⟩) (meth := k22m2) (c := k22c2) (by decide +kernel) rfl rfl rfl (by decide +kernel)
set_option maxRecDepth 65536 in
theorem w_c28 : (Jvm.Cond.code ({ cls := "java/util/Collections", name := "unmodifiableList", desc := "(Ljava/util/List;)Ljava/util/List;" } : Jvm.MethodName) jdk_79_method_35_code (1 : Nat) (Option.some (Jvm.ClassFile.FieldType.object "java/util/List"))).before args0 about1 = true := code_word (m := ⟨26, 1⟩) (meth := k26m1) (c := k26c1) (by decide +kernel) rfl rfl rfl (by decide +kernel)
set_option maxRecDepth 65536 in
theorem w_c29 : (Jvm.Cond.code ({ cls := "java/util/Collections$UnmodifiableRandomAccessList", name := "<init>", desc := "(Ljava/util/List;)V" } : Jvm.MethodName) jdk_121_method_1_code (2 : Nat) (Option.none : Option Jvm.ClassFile.FieldType)).before args0 about1 = true := code_word (m := ⟨29, 0⟩) (meth := k29m0) (c := k29c0) (by decide +kernel) rfl rfl rfl (by decide +kernel)
set_option maxRecDepth 65536 in
theorem w_c30 : (Jvm.Cond.code ({ cls := "java/util/Collections$UnmodifiableList", name := "<init>", desc := "(Ljava/util/List;)V" } : Jvm.MethodName) jdk_120_method_1_code (2 : Nat) (Option.none : Option Jvm.ClassFile.FieldType)).before args0 about1 = true := code_word (m := ⟨28, 0⟩) (meth := k28m0) (c := k28c0) (by decide +kernel) rfl rfl rfl (by decide +kernel)
set_option maxRecDepth 65536 in
theorem w_c31 : (Jvm.Cond.code ({ cls := "java/util/Collections$UnmodifiableCollection", name := "<init>", desc := "(Ljava/util/Collection;)V" } : Jvm.MethodName) jdk_119_method_1_code (2 : Nat) (Option.none : Option Jvm.ClassFile.FieldType)).before args0 about1 = true := code_word (m := ⟨27, 0⟩) (meth := k27m0) (c := k27c0) (by decide +kernel) rfl rfl rfl (by decide +kernel)
set_option maxRecDepth 65536 in
theorem w_c32 : (Jvm.Cond.code ({ cls := "java/util/Collections$UnmodifiableCollection", name := "isEmpty", desc := "()Z" } : Jvm.MethodName) jdk_119_method_3_code (1 : Nat) (Option.some Jvm.ClassFile.FieldType.boolean)).before args0 about1 = true := code_word (m := ⟨27, 1⟩) (meth := k27m1) (c := k27c1) (by decide +kernel) rfl rfl rfl (by decide +kernel)
set_option maxRecDepth 65536 in
theorem w_c33 : (Jvm.Cond.code ({ cls := "com/example/treegraft/treegraft/brackets/Bracket", name := "isWord", desc := "()Z" } : Jvm.MethodName) prog_6_method_4_code (1 : Nat) (Option.some Jvm.ClassFile.FieldType.boolean)).before args0 about1 = true := code_word (m := ⟨23, 1⟩) (meth := k23m1) (c := k23c1) (by decide +kernel) rfl rfl rfl (by decide +kernel)
set_option maxRecDepth 65536 in
theorem w_c34 : (Jvm.Cond.code ({ cls := "com/example/treegraft/treegraft/brackets/Bracket", name := "word", desc := "()Ljava/lang/String;" } : Jvm.MethodName) prog_6_method_11_code (1 : Nat) (Option.some (Jvm.ClassFile.FieldType.object "java/lang/String"))).before args0 about1 = true := code_word (m := ⟨23, 2⟩) (meth := k23m2) (c := k23c2) (by decide +kernel) rfl rfl rfl (by decide +kernel)
set_option maxRecDepth 65536 in
theorem w_c35 : (Jvm.Cond.code ({ cls := "com/example/treegraft/treegraft/brackets/Bracket", name := "children", desc := "()Ljava/util/List;" } : Jvm.MethodName) prog_6_method_12_code (1 : Nat) (Option.some (Jvm.ClassFile.FieldType.object "java/util/List"))).before args0 about1 = true := code_word (m := ⟨23, 3⟩) (meth := k23m3) (c := k23c3) (by decide +kernel) rfl rfl rfl (by decide +kernel)
set_option maxRecDepth 65536 in
theorem w_c36 : (Jvm.Cond.code ({ cls := "com/example/treegraft/treegraft/brackets/Bracket", name := "line", desc := "()I" } : Jvm.MethodName) prog_6_method_13_code (1 : Nat) (Option.some Jvm.ClassFile.FieldType.int)).before args0 about1 = true := code_word (m := ⟨23, 4⟩) (meth := k23m4) (c := k23c4) (by decide +kernel) rfl rfl rfl (by decide +kernel)
set_option maxRecDepth 65536 in
theorem w_c37 : (Jvm.Cond.code ({ cls := "java/util/List", name := "of", desc := "()Ljava/util/List;" } : Jvm.MethodName) jdk_40_method_36_code (0 : Nat) (Option.some (Jvm.ClassFile.FieldType.object "java/util/List"))).before args0 about1 = true := code_word (m := ⟨14, 1⟩) (meth := k14m1) (c := k14c1) (by decide +kernel) rfl rfl rfl (by decide +kernel)
set_option maxRecDepth 65536 in
theorem w_c38 : (Jvm.Cond.code ({ cls := "java/util/ImmutableCollections$ListN", name := "isEmpty", desc := "()Z" } : Jvm.MethodName) jdk_45_method_2_code (1 : Nat) (Option.some Jvm.ClassFile.FieldType.boolean)).before args0 about1 = true := code_word (m := ⟨33, 0⟩) (meth := k33m0) (c := k33c0) (by decide +kernel) rfl rfl rfl (by decide +kernel)
def codes1 : List Jvm.Cond := [Jvm.Cond.code x code maxLocals ret, Jvm.Cond.code ({ cls := "java/lang/String", name := "valueOf", desc := "(C)Ljava/lang/String;" } : Jvm.MethodName) jdk_42_method_139_code (1 : Nat) (Option.some (Jvm.ClassFile.FieldType.object "java/lang/String")), Jvm.Cond.code ({ cls := "java/lang/StringLatin1", name := "canEncode", desc := "(C)Z" } : Jvm.MethodName) jdk_43_method_3_code (1 : Nat) (Option.some Jvm.ClassFile.FieldType.boolean), Jvm.Cond.code ({ cls := "java/lang/StringLatin1", name := "toBytes", desc := "(C)[B" } : Jvm.MethodName) jdk_43_method_46_code (1 : Nat) (Option.some (Jvm.ClassFile.FieldType.array Jvm.ClassFile.FieldType.byte)), Jvm.Cond.code ({ cls := "java/lang/String", name := "<init>", desc := "([BB)V" } : Jvm.MethodName) jdk_42_method_151_code (3 : Nat) (Option.none : Option Jvm.ClassFile.FieldType), Jvm.Cond.code ({ cls := "java/lang/Object", name := "<init>", desc := "()V" } : Jvm.MethodName) object_method_1_code (1 : Nat) (Option.none : Option Jvm.ClassFile.FieldType), Jvm.Cond.code ({ cls := "java/lang/String", name := "<init>", desc := "([C)V" } : Jvm.MethodName) jdk_42_method_3_code (2 : Nat) (Option.none : Option Jvm.ClassFile.FieldType), Jvm.Cond.code ({ cls := "java/lang/String", name := "<init>", desc := "([CIILjava/lang/Void;)V" } : Jvm.MethodName) jdk_42_method_149_code (6 : Nat) (Option.none : Option Jvm.ClassFile.FieldType), Jvm.Cond.code ({ cls := "java/lang/StringUTF16", name := "compress", desc := "([CII)[B" } : Jvm.MethodName) jdk_52_method_16_code (6 : Nat) (Option.some (Jvm.ClassFile.FieldType.array Jvm.ClassFile.FieldType.byte)), Jvm.Cond.code ({ cls := "java/lang/StringUTF16", name := "compress", desc := "([CI[BII)I" } : Jvm.MethodName) jdk_52_method_21_code (7 : Nat) (Option.some Jvm.ClassFile.FieldType.int), Jvm.Cond.code ({ cls := "java/lang/StringUTF16", name := "coderFromArrayLen", desc := "([BI)B" } : Jvm.MethodName) jdk_52_method_15_code (2 : Nat) (Option.some Jvm.ClassFile.FieldType.byte), Jvm.Cond.code ({ cls := "java/util/ArrayList", name := "<init>", desc := "()V" } : Jvm.MethodName) jdk_38_method_2_code (1 : Nat) (Option.none : Option Jvm.ClassFile.FieldType), Jvm.Cond.code ({ cls := "java/util/AbstractList", name := "<init>", desc := "()V" } : Jvm.MethodName) jdk_39_method_1_code (1 : Nat) (Option.none : Option Jvm.ClassFile.FieldType), Jvm.Cond.code ({ cls := "java/util/AbstractCollection", name := "<init>", desc := "()V" } : Jvm.MethodName) jdk_22_method_1_code (1 : Nat) (Option.none : Option Jvm.ClassFile.FieldType), Jvm.Cond.code ({ cls := "com/example/treegraft/treegraft/brackets/Atom", name := "<init>", desc := "(Ljava/lang/String;I)V" } : Jvm.MethodName) prog_5_method_1_code (3 : Nat) (Option.none : Option Jvm.ClassFile.FieldType), Jvm.Cond.code ({ cls := "java/lang/Record", name := "<init>", desc := "()V" } : Jvm.MethodName) jdk_30_method_1_code (1 : Nat) (Option.none : Option Jvm.ClassFile.FieldType), Jvm.Cond.code ({ cls := "java/util/ArrayList", name := "add", desc := "(Ljava/lang/Object;)Z" } : Jvm.MethodName) jdk_38_method_25_code (2 : Nat) (Option.some Jvm.ClassFile.FieldType.boolean), Jvm.Cond.code ({ cls := "java/util/ArrayList", name := "add", desc := "(Ljava/lang/Object;[Ljava/lang/Object;I)V" } : Jvm.MethodName) jdk_38_method_24_code (4 : Nat) (Option.none : Option Jvm.ClassFile.FieldType), Jvm.Cond.code ({ cls := "java/util/ArrayList", name := "grow", desc := "()[Ljava/lang/Object;" } : Jvm.MethodName) jdk_38_method_7_code (1 : Nat) (Option.some (Jvm.ClassFile.FieldType.array (Jvm.ClassFile.FieldType.object "java/lang/Object"))), Jvm.Cond.code ({ cls := "java/util/ArrayList", name := "grow", desc := "(I)[Ljava/lang/Object;" } : Jvm.MethodName) jdk_38_method_6_code (4 : Nat) (Option.some (Jvm.ClassFile.FieldType.array (Jvm.ClassFile.FieldType.object "java/lang/Object"))), Jvm.Cond.code ({ cls := "java/lang/Math", name := "max", desc := "(II)I" } : Jvm.MethodName) jdk_29_method_65_code (2 : Nat) (Option.some Jvm.ClassFile.FieldType.int), Jvm.Cond.code ({ cls := "com/example/treegraft/treegraft/brackets/Bracket", name := "<init>", desc := "(Ljava/lang/String;Ljava/lang/String;Ljava/util/List;I)V" } : Jvm.MethodName) prog_6_method_1_code (5 : Nat) (Option.none : Option Jvm.ClassFile.FieldType), Jvm.Cond.code ({ cls := "java/util/ArrayList", name := "isEmpty", desc := "()Z" } : Jvm.MethodName) jdk_38_method_9_code (1 : Nat) (Option.some Jvm.ClassFile.FieldType.boolean), Jvm.Cond.code ({ cls := "java/util/ArrayList", name := "<init>", desc := "(Ljava/util/Collection;)V" } : Jvm.MethodName) jdk_38_method_3_code (3 : Nat) (Option.none : Option Jvm.ClassFile.FieldType), Jvm.Cond.code ({ cls := "java/util/ArrayList", name := "toArray", desc := "()[Ljava/lang/Object;" } : Jvm.MethodName) jdk_38_method_16_code (1 : Nat) (Option.some (Jvm.ClassFile.FieldType.array (Jvm.ClassFile.FieldType.object "java/lang/Object"))), Jvm.Cond.code ({ cls := "java/util/Arrays", name := "copyOf", desc := "([Ljava/lang/Object;I)[Ljava/lang/Object;" } : Jvm.MethodName) jdk_65_method_119_code (2 : Nat) (Option.some (Jvm.ClassFile.FieldType.array (Jvm.ClassFile.FieldType.object "java/lang/Object"))), Jvm.Cond.code ({ cls := "java/util/Arrays", name := "copyOf", desc := "([Ljava/lang/Object;ILjava/lang/Class;)[Ljava/lang/Object;" } : Jvm.MethodName) jdk_65_method_120_code (4 : Nat) (Option.some (Jvm.ClassFile.FieldType.array (Jvm.ClassFile.FieldType.object "java/lang/Object"))), Jvm.Cond.code ({ cls := "java/lang/Math", name := "min", desc := "(II)I" } : Jvm.MethodName) jdk_29_method_69_code (2 : Nat) (Option.some Jvm.ClassFile.FieldType.int), Jvm.Cond.code ({ cls := "java/util/Collections", name := "unmodifiableList", desc := "(Ljava/util/List;)Ljava/util/List;" } : Jvm.MethodName) jdk_79_method_35_code (1 : Nat) (Option.some (Jvm.ClassFile.FieldType.object "java/util/List")), Jvm.Cond.code ({ cls := "java/util/Collections$UnmodifiableRandomAccessList", name := "<init>", desc := "(Ljava/util/List;)V" } : Jvm.MethodName) jdk_121_method_1_code (2 : Nat) (Option.none : Option Jvm.ClassFile.FieldType), Jvm.Cond.code ({ cls := "java/util/Collections$UnmodifiableList", name := "<init>", desc := "(Ljava/util/List;)V" } : Jvm.MethodName) jdk_120_method_1_code (2 : Nat) (Option.none : Option Jvm.ClassFile.FieldType), Jvm.Cond.code ({ cls := "java/util/Collections$UnmodifiableCollection", name := "<init>", desc := "(Ljava/util/Collection;)V" } : Jvm.MethodName) jdk_119_method_1_code (2 : Nat) (Option.none : Option Jvm.ClassFile.FieldType), Jvm.Cond.code ({ cls := "java/util/Collections$UnmodifiableCollection", name := "isEmpty", desc := "()Z" } : Jvm.MethodName) jdk_119_method_3_code (1 : Nat) (Option.some Jvm.ClassFile.FieldType.boolean), Jvm.Cond.code ({ cls := "com/example/treegraft/treegraft/brackets/Bracket", name := "isWord", desc := "()Z" } : Jvm.MethodName) prog_6_method_4_code (1 : Nat) (Option.some Jvm.ClassFile.FieldType.boolean), Jvm.Cond.code ({ cls := "com/example/treegraft/treegraft/brackets/Bracket", name := "word", desc := "()Ljava/lang/String;" } : Jvm.MethodName) prog_6_method_11_code (1 : Nat) (Option.some (Jvm.ClassFile.FieldType.object "java/lang/String")), Jvm.Cond.code ({ cls := "com/example/treegraft/treegraft/brackets/Bracket", name := "children", desc := "()Ljava/util/List;" } : Jvm.MethodName) prog_6_method_12_code (1 : Nat) (Option.some (Jvm.ClassFile.FieldType.object "java/util/List")), Jvm.Cond.code ({ cls := "com/example/treegraft/treegraft/brackets/Bracket", name := "line", desc := "()I" } : Jvm.MethodName) prog_6_method_13_code (1 : Nat) (Option.some Jvm.ClassFile.FieldType.int), Jvm.Cond.code ({ cls := "java/util/List", name := "of", desc := "()Ljava/util/List;" } : Jvm.MethodName) jdk_40_method_36_code (0 : Nat) (Option.some (Jvm.ClassFile.FieldType.object "java/util/List")), Jvm.Cond.code ({ cls := "java/util/ImmutableCollections$ListN", name := "isEmpty", desc := "()Z" } : Jvm.MethodName) jdk_45_method_2_code (1 : Nat) (Option.some Jvm.ClassFile.FieldType.boolean)]
set_option maxRecDepth 65536 in
theorem codes_eq : words1.filter isCode = codes1 := rfl
theorem w_codes : ∀ c ∈ words1.filter isCode, c.before args0 about1 = true := by
  rw [codes_eq]
  intro c hc
  simp only [codes1, List.mem_cons, List.not_mem_nil, or_false] at hc
  rcases hc with rfl | rfl | rfl | rfl | rfl | rfl | rfl | rfl | rfl | rfl | rfl | rfl | rfl | rfl | rfl | rfl | rfl | rfl | rfl | rfl | rfl | rfl | rfl | rfl | rfl | rfl | rfl | rfl | rfl | rfl | rfl | rfl | rfl | rfl | rfl | rfl | rfl | rfl | rfl
  · exact w_c0
  · exact w_c1
  · exact w_c2
  · exact w_c3
  · exact w_c4
  · exact w_c5
  · exact w_c6
  · exact w_c7
  · exact w_c8
  · exact w_c9
  · exact w_c10
  · exact w_c11
  · exact w_c12
  · exact w_c13
  · exact w_c14
  · exact w_c15
  · exact w_c16
  · exact w_c17
  · exact w_c18
  · exact w_c19
  · exact w_c20
  · exact w_c21
  · exact w_c22
  · exact w_c23
  · exact w_c24
  · exact w_c25
  · exact w_c26
  · exact w_c27
  · exact w_c28
  · exact w_c29
  · exact w_c30
  · exact w_c31
  · exact w_c32
  · exact w_c33
  · exact w_c34
  · exact w_c35
  · exact w_c36
  · exact w_c37
  · exact w_c38
set_option maxRecDepth 65536 in
theorem w_t1 : (words1.take 24).all (fun c => isCode c || c.before args0 about1) = true := by decide +kernel
set_option maxRecDepth 65536 in
theorem w_t2 : ((words1.drop 24).take 24).all (fun c => isCode c || c.before args0 about1) = true := by decide +kernel
set_option maxRecDepth 65536 in
theorem w_t3 : (((words1.drop 24).drop 24).take 24).all (fun c => isCode c || c.before args0 about1) = true := by decide +kernel
set_option maxRecDepth 65536 in
theorem w_t4 : ((((words1.drop 24).drop 24).drop 24).take 24).all (fun c => isCode c || c.before args0 about1) = true := by decide +kernel
set_option maxRecDepth 65536 in
theorem w_t5 : (((((words1.drop 24).drop 24).drop 24).drop 24).take 24).all (fun c => isCode c || c.before args0 about1) = true := by decide +kernel
set_option maxRecDepth 65536 in
theorem w_t6 : ((((((words1.drop 24).drop 24).drop 24).drop 24).drop 24).take 24).all (fun c => isCode c || c.before args0 about1) = true := by decide +kernel
set_option maxRecDepth 65536 in
theorem w_t7 : (((((((words1.drop 24).drop 24).drop 24).drop 24).drop 24).drop 24).take 24).all (fun c => isCode c || c.before args0 about1) = true := by decide +kernel
set_option maxRecDepth 65536 in
theorem w_t8 : ((((((((words1.drop 24).drop 24).drop 24).drop 24).drop 24).drop 24).drop 24).take 24).all (fun c => isCode c || c.before args0 about1) = true := by decide +kernel
set_option maxRecDepth 65536 in
theorem w_t9 : (((((((((words1.drop 24).drop 24).drop 24).drop 24).drop 24).drop 24).drop 24).drop 24).take 24).all (fun c => isCode c || c.before args0 about1) = true := by decide +kernel
set_option maxRecDepth 65536 in
theorem w_t10 : ((((((((((words1.drop 24).drop 24).drop 24).drop 24).drop 24).drop 24).drop 24).drop 24).drop 24).take 24).all (fun c => isCode c || c.before args0 about1) = true := by decide +kernel
set_option maxRecDepth 65536 in
theorem w_t11 : (((((((((((words1.drop 24).drop 24).drop 24).drop 24).drop 24).drop 24).drop 24).drop 24).drop 24).drop 24).take 24).all (fun c => isCode c || c.before args0 about1) = true := by decide +kernel
set_option maxRecDepth 65536 in
theorem w_t12 : (((((((((((words1.drop 24).drop 24).drop 24).drop 24).drop 24).drop 24).drop 24).drop 24).drop 24).drop 24).drop 24).all (fun c => isCode c || c.before args0 about1) = true := by decide +kernel
theorem w_tables : (allAtoms (Jvm.Cond.code x code maxLocals ret :: tables_1)).before args0 about1 = true := by
  rw [allAtoms_all]
  show words1.all (fun c => c.before args0 about1) = true
  refine all_split ?_ w_codes
  rw [← List.take_append_drop 24 words1, List.all_append, w_t1, ← List.take_append_drop 24 (words1.drop 24), List.all_append, w_t2, ← List.take_append_drop 24 ((words1.drop 24).drop 24), List.all_append, w_t3, ← List.take_append_drop 24 (((words1.drop 24).drop 24).drop 24), List.all_append, w_t4, ← List.take_append_drop 24 ((((words1.drop 24).drop 24).drop 24).drop 24), List.all_append, w_t5, ← List.take_append_drop 24 (((((words1.drop 24).drop 24).drop 24).drop 24).drop 24), List.all_append, w_t6, ← List.take_append_drop 24 ((((((words1.drop 24).drop 24).drop 24).drop 24).drop 24).drop 24), List.all_append, w_t7, ← List.take_append_drop 24 (((((((words1.drop 24).drop 24).drop 24).drop 24).drop 24).drop 24).drop 24), List.all_append, w_t8, ← List.take_append_drop 24 ((((((((words1.drop 24).drop 24).drop 24).drop 24).drop 24).drop 24).drop 24).drop 24), List.all_append, w_t9, ← List.take_append_drop 24 (((((((((words1.drop 24).drop 24).drop 24).drop 24).drop 24).drop 24).drop 24).drop 24).drop 24), List.all_append, w_t10, ← List.take_append_drop 24 ((((((((((words1.drop 24).drop 24).drop 24).drop 24).drop 24).drop 24).drop 24).drop 24).drop 24).drop 24), List.all_append, w_t11, w_t12]
  rfl
set_option maxRecDepth 65536 in
theorem w_rest : rest_1_c.before args0 about1 = true := by decide +kernel
set_option maxRecDepth 65536 in
theorem w_case : (Jvm.Cond.and given_1 narrow_1).before args0 about1 = true := by decide +kernel
set_option maxRecDepth 65536 in
theorem w_consts : constsHeld consts_1 about1 := Jvm.Lit.constsHeldB_iff.mp (by decide +kernel)
theorem w_applies : (headSpec (Jvm.Cond.code x code maxLocals ret :: tables_1) room_1).applies x e0.platform about1 = true :=
  (Spec.applies_iff w_frames).mpr ⟨w_running, w_runnable, w_alone, w_named, w_hears, w_ripe, w_room, w_tables⟩
theorem atStart : AtStart classFile x code maxLocals ret World_1 tables_1 room_1 Calls_1 rest_1 Pre_1 launch0 p0 e0 about1 theMethod args0 below0 :=
  ⟨lists_1, trivial, launch0.admits_env _ _ _, launch0.least_env, fairChoices_fair.cas, fairChoices_fair.clock, w_frames, w_args, w_heap, w_applies, ⟨⟨43, k43, 4, by decide +kernel, rfl, rfl, _, rfl, rfl⟩, ⟨⟨18, k18, 5, by decide +kernel, rfl, rfl, _, rfl, rfl⟩, ⟨⟨28, k28, 6, by decide +kernel, rfl, rfl, _, rfl, rfl⟩, ⟨⟨29, k29, 7, by decide +kernel, rfl, rfl, _, rfl, rfl⟩, ⟨w_consts, trivial⟩⟩⟩⟩⟩, w_rest, w_case⟩
end start1
theorem witness_1 : WitnessClaimed_1 := ⟨start1.p0, start1.e0, start1.about1, start1.theMethod, start1.args0, start1.below0, start1.atStart⟩
end Jvm.Pilot.@@N@@
